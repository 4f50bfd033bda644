/-
  LawS4030CPieces: FromHistory and Supply are called (seat b4030aZD).
-/
import Derived.Test.YbulkcelaGreatDoorLawB
namespace Go.Proofs.YbulkcelaGreatDoor
open Go.RowKit Go.MapKept Go.Lib Go.Shelf Go.Maps Go.Sort

noncomputable def lawE : Code := (Ybaz.f3.body.bind (fromR 39)).getD .skip

/-- The visit of a kind, said of the world alone. -/
def VisE (w : World) (v : Value) (k : Int) : Prop := (k = -1 ∧ (v = .map none ∨ ∃ r, v = .map (some r) ∧ MapL w r [])) ∨ (∃ m : Nat, m < 3 ∧ k = m ∧ ∃ r, v = .map (some r) ∧ MapL w r [(aS, .string (valS m))])
theorem VisAt.e {w : World} {ib : Nat} {v : Value} {k : Int} (h : VisAt w ib v k) : VisE w v k := by
  rcases h with ⟨h1, h2 | ⟨r, h2, _, h4⟩⟩ | ⟨m, h1, h2, r, h3, _, h5⟩
  · exact .inl ⟨h1, .inl h2⟩
  · exact .inl ⟨h1, .inr ⟨r, h2, h4⟩⟩
  · exact .inr ⟨m, h1, h2, r, h3, h5⟩
theorem VisE.later {w w' : World} {v : Value} {k : Int} (h : VisE w v k) (hm : ∀ r l, MapL w r l → MapL w' r l) : VisE w' v k := by
  rcases h with ⟨h1, h2 | ⟨r, h2, h4⟩⟩ | ⟨m, h1, h2, r, h3, h5⟩
  · exact .inl ⟨h1, .inl h2⟩
  · exact .inl ⟨h1, .inr ⟨r, h2, hm _ _ h4⟩⟩
  · exact .inr ⟨m, h1, h2, r, h3, hm _ _ h5⟩

/-- What the check begins with. -/
structure LE (w : World) (tb ub kd : Nat) (ks ds : List Int) (vs : Nat → Value) (kv cv pv : Value) (PL : List (Nat × Nat × Int)) (wE : World) : Prop where
  below : Below w.heap.size w wE
  base : wE.heap[tb]? = some (.cells #[.int .u64 0, .int .i64 100000, .pointer none] 29 (0, 0))
  kk : wE.ownsRow w.heap.size 3 1 kv ks.length (ks.map (Value.int .i64))
  cc : wE.ownsRow w.heap.size 53 1 cv ks.length (ds.map fun x => .float .f64 (fi x))
  sup : wE.heap[ub]? = some (.cells #[.slice (some ⟨kd, 0, none⟩) ks.length ks.length, pv] 59 (0, 0))
  kds : ∃ kcur : Array Value, wE.heap[kd]? = some (.cells kcur 49 (0, 0)) ∧ ∀ j, j < ks.length → kcur[j]? = some (vs j)
  vis : ∀ (j : Nat) (k : Int), ks[j]? = some k → VisE wE (vs j) k
  pcs : wE.ownsRow w.heap.size 64 6 pv PL.length (PL.flatMap encP)

theorem LE.later {w wE w' : World} {tb ub kd : Nat} {ks ds : List Int} {vs : Nat → Value} {kv cv pv : Value} {PL : List (Nat × Nat × Int)} (h : LE w tb ub kd ks ds vs kv cv pv PL wE) (hb : Below wE.heap.size wE w') : LE w tb ub kd ks ds vs kv cv pv PL w' := by
  obtain ⟨kcur, k1, k2⟩ := h.kds
  exact ⟨h.below.trans (hb.mono h.below.size), (hb.block _ (Array.getElem?_eq_some_iff.1 h.base).1).trans h.base, row_below h.kk hb, row_below h.cc hb, (hb.block _ (Array.getElem?_eq_some_iff.1 h.sup).1).trans h.sup, ⟨kcur, (hb.block _ (Array.getElem?_eq_some_iff.1 k1).1).trans k1, k2⟩, fun j k hj => (h.vis j k hj).later (fun r l hM => hM.block (hb.block r hM.lt)), row_below h.pcs hb⟩

/-- What FromHistory leaves. -/
def P8 (len N n : Nat) (sp : Int) (V : Nat → Nat) (key C : Nat → Int) (W : World) (fb : Nat) (w' : World) : Prop := ∃ nv fv, W.heap.size ≤ fb ∧ HSt W fb (W.heap.size + 2) len N sp V key C nv fv n w'

section
variable {w wB wr W : World} {tb ab N len n : Nat} {V : Nat → Nat} {S E key C : Nat → Int} {kv cv : Value}

theorem call8 (hn : n ≤ 300) (hlen : len ≤ 300) (sp : Int) (h0 : 0 ≤ sp ∧ sp ≤ 65535) (hST : ∀ j, j < len → 0 < S j) (hkey : ∀ i, -1 ≤ key i ∧ key i ≤ 2) (hC : ∀ i, (C i).natAbs ≤ 2147483648) (hL1 : L1 w tb ab N len V S E len wB) (hL : L2 wB n len V key C n kv cv wr) (hl : Lays wr W) :
    Calls Ybaz.prog 8 #[.slice (some ⟨wB.heap.size, 0, none⟩) n n, tv 100000, tv (100000 + (sp + 1)), .slice (some ⟨N, 0, none⟩) len len] W fun e w' => ∃ fb, e = .returned (.pointer (some ⟨fb, 0, none⟩)) ∧ P8 len N n (sp + 1) V key C W fb w' := by
  have hLW := hL.later hl.below
  have hNB := hL1.ltN
  have hBW := hLW.below.size
  have hlt := hLW.lt
  have hcon : ∀ i, i < len → CN W N V S E i := fun i hi => (hL1.con i hi).below hNB hLW.below
  refine (from8 wB.heap.size n n N len len V key C S E 100000 (sp + 1) W hn hlen (by omega) (by omega) (by omega) (by omega) hlt (by omega) (fun i hi => (hcon i hi).con (by have := hST i hi; omega)) (fun i hi => (hcon i hi).v3) hkey hC (fun i hi => (hLW.rows i hi).row (by omega))).mono ?_
  rintro e w' ⟨fb, nv, fv, rfl, h1, h2⟩
  exact ⟨fb, rfl, nv, fv, h1, h2⟩
end

/-- What Supply leaves, as the law asks. -/
def P9 (B1 b0 : Nat) (V : Nat → Nat) (S E : Nat → Int) (len : Nat) (ks ds : List Int) (x y sp : Int) (W : World) (kv pv : Value) (w' : World) : Prop := ∃ kb vs, (b0 + 2 ≤ kb ∧ kb < B1) ∧ b0 + 2 < B1 ∧ kv = .slice (some ⟨W.heap.size + 3, 0, none⟩) ks.length ks.length ∧ (∃ c t f, W.heap[kb]? = some (.cells c t f)) ∧ (∃ c t f, W.heap[b0 + 2]? = some (.cells c t f)) ∧ (∀ (j : Nat) (k : Int), ks[j]? = some k → VisE W (vs j) k) ∧ SEnd W b0 kb ks.length vs pv (allP sp ds (csOf x y V S E len ks) ks.length) w'

theorem call9 (b0 len N B n fb : Nat) (V : Nat → Nat) (S E key C : Nat → Int) (f d sp : Int) (nv fv : Value) (w w1 W : World) (hn : n ≤ 300) (hlen : len ≤ 300) (hf : -32768 ≤ f ∧ f ≤ 32767) (hd : 0 ≤ d ∧ d ≤ 65535) (hsp : 0 ≤ sp ∧ sp ≤ 65535) (hST : ∀ j, j < len → (0 < S j ∧ S j ≤ 1000000) ∧ (0 ≤ E j ∧ E j ≤ 1000000)) (hkey : ∀ i, -1 ≤ key i ∧ key i ≤ 2) (hC : ∀ i, (C i).natAbs ≤ 2147483648) (hN : N < B) (hB : B ≤ b0) (hCon : ∀ i, i < len → Con w1 N B V S E i) (hH : HSt w fb b0 len N (sp + 1) V key C nv fv n w1) (hl : Lays w1 W) :
    Calls Ybaz.prog 9 #[.pointer (some ⟨fb, 0, none⟩), tv (100000 + f), tv (100000 + (f + 1 + d))] W fun e w' => ∃ kp kn kc pp pn pc, e = .returned (.agg #[.slice kp kn kc, .slice pp pn pc]) ∧ Lays w1 W ∧ P9 w1.heap.size b0 V S E len (hist key C n).1 (hist key C n).2 (100000 + f) (100000 + (f + 1 + d)) (sp + 1) W (.slice kp kn kc) (.slice pp pn pc) w' := by
  obtain ⟨vs, kv, keyv, q, xs, cv, hKs, hkey1, hq, hfb, hcv⟩ := hH.st
  have hKsW := hKs.later hl.below
  have hfbl := (Array.getElem?_eq_some_iff.1 hfb).1
  have hfbW := (hl.below.block fb hfbl).trans hfb
  have hcvW := row_below hcv hl.below
  have hlo := hKs.lo
  have hbs := hl.below.size
  have hlk := hist_le key C n
  obtain ⟨kb, kc, hkv, hkb, hke⟩ : ∃ kb kc, (0 < (hist key C n).1.length → kv = .slice (some ⟨kb, 0, none⟩) (hist key C n).1.length kc) ∧ (b0 + 2 ≤ kb ∧ kb < w1.heap.size) ∧ ∃ c t f, W.heap[kb]? = some (.cells c t f) := by
    by_cases h0 : 0 < (hist key C n).1.length
    · obtain ⟨g, c, hform⟩ := Joins.ownsRow_form hKs.kinds h0
      obtain ⟨h1, cu, hcu⟩ := own_block hKs.kinds (g := g) (by rw [hform]; rfl)
      have hgl := (Array.getElem?_eq_some_iff.1 hcu).1
      exact ⟨g, c, fun _ => hform, ⟨by omega, hgl⟩, _, _, _, (hl.below.block g hgl).trans hcu⟩
    · exact ⟨b0 + 2, 0, fun h => absurd h h0, ⟨Nat.le_refl _, hlo⟩, _, _, _, hKsW.box⟩
  refine (supply9 fb b0 kb kc len N B V S E _ (hist key C n).1 (hist key C n).2 vs nv fv kv keyv cv (100000 + f) (100000 + (f + 1 + d)) (sp + 1) W hKsW hkv hfbW hcvW (hist_len key C n) (by omega) (hist_nodup key C n) (hist_mem key C (fun x => -1 ≤ x ∧ x ≤ 2) hkey n) hlen hN hB (fun i hi => (hCon i hi).below hN (hl.below.mono (by omega))) (fun j hj => ⟨⟨by have := hST j hj; omega, (hST j hj).1.2⟩, (hST j hj).2⟩) (by omega) (by omega) (by omega) (by omega) (by omega) (fun z hz => ?_)).mono ?_
  · have h1 := hist_small key C 2147483648 hC n z hz
    have h2 : n * 2147483648 ≤ 300 * 2147483648 := Nat.mul_le_mul_right _ hn
    omega
  · rintro e w' ⟨pv, rfl, hE⟩
    obtain ⟨pp, pc, rfl⟩ := own_form hE.pcs
    exact ⟨_, _, _, _, _, _, rfl, hl, kb, vs, hkb, hlo, rfl, hke, ⟨_, _, _, hKsW.box⟩, fun j k hj => (hKsW.vis j k hj).e, hE⟩

set_option linter.unusedSimpArgs false in
set_option maxRecDepth 100000 in
set_option maxHeartbeats 4000000 in
theorem law_D (a0 a1 : Option Addr) (n cap0 len cap1 tb ab N : Nat) (f d sp : Int) (V : Nat → Nat) (S E key C : Nat → Int) (kv cv : Value) (w wB wr : World) (hn : n ≤ 300) (hlen : len ≤ 300) (hf : -32768 ≤ f ∧ f ≤ 32767) (hd : 0 ≤ d ∧ d ≤ 65535) (hsp : 0 ≤ sp ∧ sp ≤ 65535) (hST : ∀ j, j < len → (0 < S j ∧ S j ≤ 1000000) ∧ (0 ≤ E j ∧ E j ≤ 1000000)) (hkey : ∀ i, -1 ≤ key i ∧ key i ≤ 2) (hC : ∀ i, (C i).natAbs ≤ 2147483648) (hL1 : L1 w tb ab N len V S E len wB) (hL : L2 wB n len V key C n kv cv wr) (Q : Exit → Act → World → Prop) (hrest : ∀ (ub kd : Nat) (vs : Nat → Value) (pv : Value) (wE : World), LE w tb ub kd (hist key C n).1 (hist key C n).2 vs kv cv pv (allP (sp + 1) (hist key C n).2 (csOf (100000 + f) (100000 + (f + 1 + d)) V S E len (hist key C n).1) (hist key C n).1.length) wE → ∀ (c0 c2 c3 c4 c5 c6 c7 c8 c9 c10 c12 c13 c14 c15 c16 c17 c20 c21 c22 c23 c24 c25 c29 c31 c32 c33 c34 c35 c36 c37 c38 c39 c40 c41 c42 c43 c44 c45 c46 c47 c48 c49 c50 c51 c52 c53 c54 c55 c56 c57 c58 c59 c60 c61 c62 c63 c64 c65 c66 c67 c68 c69 c70 c71 c72 c73 c74 c75 c76 c77 c78 c79 c80 c81 c82 c83 c84 c85 c86 c87 c88 c89 c90 c91 c92 c93 c94 c95 c96 c97 c98 c99 c100 c101 c102 c103 c104 c105 c106 c107 c108 c109 c110 c111 c112 c113 c114 c115 c116 c117 c118 c119 c120 c121 c122 c123 c124 c125 c126 c127 c128 c129 c130 c131 c132 c133 c134 c135 c136 c137 c138 c139 c140 c141 c142 c143 c144 c145 c146 c147 c148 c149 c150 c151 c152 c153 c154 c155 c156 c157 c158 c159 c160 c161 c162 c163 c164 c165 c166 c167 c168 c169 c170 c171 c172 c173 c174 c175 c176 c177 c178 c179 c180 c181 c182 c183 c184 c185 c186 c187 c188 c189 c190 c191 c192 c193 c194 c195 c196 c197 c198 c199 c200 c201 c202 c203 c204 c205 c206 c207 c208 c209 c210 c211 c212 c213 c214 c215 c216 c217 c218 c219 c220 c221 c222 c223 c224 c225 c226 c227 c228 c229 c230 c231 c232 c233 c234 c235 c236 c237 c238 c239 c240 c241 c242 c243 c244 c245 c246 c247 c248 c249 c250 c251 c252 c253 c254 c255 c256 c257 c258 c259 c260 c261 c262 c263 c264 c265 c266 c267 c268 c269 c270 c271 c272 c273 c274 c275 c276 c277 c278 c279 c280 c281 c282 c283 c284 c285 c286 c287 c288 c289 c290 c291 c292 c293 c294 c295 c296 c297 c298 c299 c300 c301 c302 c303 c304 c305 c306 c307 c308 c309 c310 c311 c312 c313 c314 c315 c316 c317 c318 c319 c320 c321 c322 c323 c324 c325 c326 : Value), lawE.wp Ybaz.prog Q ⟨#[c0, .slice a1 len cap1, c2, c3, c4, c5, c6, c7, c8, c9, c10, .pointer (some ⟨tb, 0, none⟩), c12, c13, c14, c15, c16, c17, kv, cv, c20, c21, c22, c23, c24, c25, .int .i64 f, .int .i64 (f + 1 + d), .int .i64 (sp + 1), c29, .pointer (some ⟨ub, 0, none⟩), c31, c32, c33, c34, c35, c36, c37, c38, c39, c40, c41, c42, c43, c44, c45, c46, c47, c48, c49, c50, c51, c52, c53, c54, c55, c56, c57, c58, c59, c60, c61, c62, c63, c64, c65, c66, c67, c68, c69, c70, c71, c72, c73, c74, c75, c76, c77, c78, c79, c80, c81, c82, c83, c84, c85, c86, c87, c88, c89, c90, c91, c92, c93, c94, c95, c96, c97, c98, c99, c100, c101, c102, c103, c104, c105, c106, c107, c108, c109, c110, c111, c112, c113, c114, c115, c116, c117, c118, c119, c120, c121, c122, c123, c124, c125, c126, c127, c128, c129, c130, c131, c132, c133, c134, c135, c136, c137, c138, c139, c140, c141, c142, c143, c144, c145, c146, c147, c148, c149, c150, c151, c152, c153, c154, c155, c156, c157, c158, c159, c160, c161, c162, c163, c164, c165, c166, c167, c168, c169, c170, c171, c172, c173, c174, c175, c176, c177, c178, c179, c180, c181, c182, c183, c184, c185, c186, c187, c188, c189, c190, c191, c192, c193, c194, c195, c196, c197, c198, c199, c200, c201, c202, c203, c204, c205, c206, c207, c208, c209, c210, c211, c212, c213, c214, c215, c216, c217, c218, c219, c220, c221, c222, c223, c224, c225, c226, c227, c228, c229, c230, c231, c232, c233, c234, c235, c236, c237, c238, c239, c240, c241, c242, c243, c244, c245, c246, c247, c248, c249, c250, c251, c252, c253, c254, c255, c256, c257, c258, c259, c260, c261, c262, c263, c264, c265, c266, c267, c268, c269, c270, c271, c272, c273, c274, c275, c276, c277, c278, c279, c280, c281, c282, c283, c284, c285, c286, c287, c288, c289, c290, c291, c292, c293, c294, c295, c296, c297, c298, c299, c300, c301, c302, c303, c304, c305, c306, c307, c308, c309, c310, c311, c312, c313, c314, c315, c316, c317, c318, c319, c320, c321, c322, c323, c324, c325, c326], []⟩ wE) (c5 c6 c7 c8 c9 c10 c14 c15 c16 c20 c21 c22 c23 c24 c25 c26 c27 c28 c29 c30 c31 c32 c33 c34 c35 c36 c37 c38 c39 c40 c41 c42 c43 c44 c45 c46 c47 c48 c49 c50 c51 c52 c53 c54 c55 c56 c57 c58 c59 c60 c61 c62 c63 c64 c65 c66 c67 c68 c69 c70 c71 c72 c73 c74 c75 c76 c77 c78 c79 c80 c81 c82 c83 c84 c85 c86 c87 c88 c89 c90 c91 c92 c93 c94 c95 c96 c97 c98 c99 c100 c101 c102 c103 c104 c105 c106 c107 c108 c109 c110 c111 c112 c113 c114 c115 c116 c117 c118 c119 c120 c121 c122 c123 c124 c125 c126 c127 c128 c129 c130 c131 c132 c133 c134 c135 c136 c137 c138 c139 c140 c141 c142 c143 c144 c145 c146 c147 c148 c149 c150 c151 c152 c153 c154 c155 c156 c157 c158 c159 c160 c161 c162 c163 c164 c165 c166 c167 c168 c169 c170 c171 c172 c173 c174 c175 c176 c177 c178 c179 c180 c181 c182 c183 c184 c185 c186 c187 c188 c189 c190 c191 c192 c193 c194 c195 c196 c197 c198 c199 c200 c201 c202 c203 c204 c205 c206 c207 c208 c209 c210 c211 c212 c213 c214 c215 c216 c217 c218 c219 c220 c221 c222 c223 c224 c225 c226 c227 c228 c229 c230 c231 c232 c233 c234 c235 c236 c237 c238 c239 c240 c241 c242 c243 c244 c245 c246 c247 c248 c249 c250 c251 c252 c253 c254 c255 c256 c257 c258 c259 c260 c261 c262 c263 c264 c265 c266 c267 c268 c269 c270 c271 c272 c273 c274 c275 c276 c277 c278 c279 c280 c281 c282 c283 c284 c285 c286 c287 c288 c289 c290 c291 c292 c293 c294 c295 c296 c297 c298 c299 c300 c301 c302 c303 c304 c305 c306 c307 c308 c309 c310 c311 c312 c313 c314 c315 c316 c317 c318 c319 c320 c321 c322 c323 c324 c325 c326 : Value) :
    lawD.wp Ybaz.prog Q ⟨#[.slice a0 n cap0, .slice a1 len cap1, .int .i16 f, .int .u16 d, .int .u16 sp, c5, c6, c7, c8, c9, c10, .pointer (some ⟨tb, 0, none⟩), .pointer (some ⟨ab, 0, none⟩), .slice (some ⟨N, 0, none⟩) len len, c14, c15, c16, .slice (some ⟨wB.heap.size, 0, none⟩) n n, kv, cv, c20, c21, c22, c23, c24, c25, c26, c27, c28, c29, c30, c31, c32, c33, c34, c35, c36, c37, c38, c39, c40, c41, c42, c43, c44, c45, c46, c47, c48, c49, c50, c51, c52, c53, c54, c55, c56, c57, c58, c59, c60, c61, c62, c63, c64, c65, c66, c67, c68, c69, c70, c71, c72, c73, c74, c75, c76, c77, c78, c79, c80, c81, c82, c83, c84, c85, c86, c87, c88, c89, c90, c91, c92, c93, c94, c95, c96, c97, c98, c99, c100, c101, c102, c103, c104, c105, c106, c107, c108, c109, c110, c111, c112, c113, c114, c115, c116, c117, c118, c119, c120, c121, c122, c123, c124, c125, c126, c127, c128, c129, c130, c131, c132, c133, c134, c135, c136, c137, c138, c139, c140, c141, c142, c143, c144, c145, c146, c147, c148, c149, c150, c151, c152, c153, c154, c155, c156, c157, c158, c159, c160, c161, c162, c163, c164, c165, c166, c167, c168, c169, c170, c171, c172, c173, c174, c175, c176, c177, c178, c179, c180, c181, c182, c183, c184, c185, c186, c187, c188, c189, c190, c191, c192, c193, c194, c195, c196, c197, c198, c199, c200, c201, c202, c203, c204, c205, c206, c207, c208, c209, c210, c211, c212, c213, c214, c215, c216, c217, c218, c219, c220, c221, c222, c223, c224, c225, c226, c227, c228, c229, c230, c231, c232, c233, c234, c235, c236, c237, c238, c239, c240, c241, c242, c243, c244, c245, c246, c247, c248, c249, c250, c251, c252, c253, c254, c255, c256, c257, c258, c259, c260, c261, c262, c263, c264, c265, c266, c267, c268, c269, c270, c271, c272, c273, c274, c275, c276, c277, c278, c279, c280, c281, c282, c283, c284, c285, c286, c287, c288, c289, c290, c291, c292, c293, c294, c295, c296, c297, c298, c299, c300, c301, c302, c303, c304, c305, c306, c307, c308, c309, c310, c311, c312, c313, c314, c315, c316, c317, c318, c319, c320, c321, c322, c323, c324, c325, c326], []⟩ wr := by
  have hAR : Aside (∀ (ub kd : Nat) (vs : Nat → Value) (pv : Value) (wE : World), LE w tb ub kd (hist key C n).1 (hist key C n).2 vs kv cv pv (allP (sp + 1) (hist key C n).2 (csOf (100000 + f) (100000 + (f + 1 + d)) V S E len (hist key C n).1) (hist key C n).1.length) wE → ∀ (c0 c2 c3 c4 c5 c6 c7 c8 c9 c10 c12 c13 c14 c15 c16 c17 c20 c21 c22 c23 c24 c25 c29 c31 c32 c33 c34 c35 c36 c37 c38 c39 c40 c41 c42 c43 c44 c45 c46 c47 c48 c49 c50 c51 c52 c53 c54 c55 c56 c57 c58 c59 c60 c61 c62 c63 c64 c65 c66 c67 c68 c69 c70 c71 c72 c73 c74 c75 c76 c77 c78 c79 c80 c81 c82 c83 c84 c85 c86 c87 c88 c89 c90 c91 c92 c93 c94 c95 c96 c97 c98 c99 c100 c101 c102 c103 c104 c105 c106 c107 c108 c109 c110 c111 c112 c113 c114 c115 c116 c117 c118 c119 c120 c121 c122 c123 c124 c125 c126 c127 c128 c129 c130 c131 c132 c133 c134 c135 c136 c137 c138 c139 c140 c141 c142 c143 c144 c145 c146 c147 c148 c149 c150 c151 c152 c153 c154 c155 c156 c157 c158 c159 c160 c161 c162 c163 c164 c165 c166 c167 c168 c169 c170 c171 c172 c173 c174 c175 c176 c177 c178 c179 c180 c181 c182 c183 c184 c185 c186 c187 c188 c189 c190 c191 c192 c193 c194 c195 c196 c197 c198 c199 c200 c201 c202 c203 c204 c205 c206 c207 c208 c209 c210 c211 c212 c213 c214 c215 c216 c217 c218 c219 c220 c221 c222 c223 c224 c225 c226 c227 c228 c229 c230 c231 c232 c233 c234 c235 c236 c237 c238 c239 c240 c241 c242 c243 c244 c245 c246 c247 c248 c249 c250 c251 c252 c253 c254 c255 c256 c257 c258 c259 c260 c261 c262 c263 c264 c265 c266 c267 c268 c269 c270 c271 c272 c273 c274 c275 c276 c277 c278 c279 c280 c281 c282 c283 c284 c285 c286 c287 c288 c289 c290 c291 c292 c293 c294 c295 c296 c297 c298 c299 c300 c301 c302 c303 c304 c305 c306 c307 c308 c309 c310 c311 c312 c313 c314 c315 c316 c317 c318 c319 c320 c321 c322 c323 c324 c325 c326 : Value), lawE.wp Ybaz.prog Q ⟨#[c0, .slice a1 len cap1, c2, c3, c4, c5, c6, c7, c8, c9, c10, .pointer (some ⟨tb, 0, none⟩), c12, c13, c14, c15, c16, c17, kv, cv, c20, c21, c22, c23, c24, c25, .int .i64 f, .int .i64 (f + 1 + d), .int .i64 (sp + 1), c29, .pointer (some ⟨ub, 0, none⟩), c31, c32, c33, c34, c35, c36, c37, c38, c39, c40, c41, c42, c43, c44, c45, c46, c47, c48, c49, c50, c51, c52, c53, c54, c55, c56, c57, c58, c59, c60, c61, c62, c63, c64, c65, c66, c67, c68, c69, c70, c71, c72, c73, c74, c75, c76, c77, c78, c79, c80, c81, c82, c83, c84, c85, c86, c87, c88, c89, c90, c91, c92, c93, c94, c95, c96, c97, c98, c99, c100, c101, c102, c103, c104, c105, c106, c107, c108, c109, c110, c111, c112, c113, c114, c115, c116, c117, c118, c119, c120, c121, c122, c123, c124, c125, c126, c127, c128, c129, c130, c131, c132, c133, c134, c135, c136, c137, c138, c139, c140, c141, c142, c143, c144, c145, c146, c147, c148, c149, c150, c151, c152, c153, c154, c155, c156, c157, c158, c159, c160, c161, c162, c163, c164, c165, c166, c167, c168, c169, c170, c171, c172, c173, c174, c175, c176, c177, c178, c179, c180, c181, c182, c183, c184, c185, c186, c187, c188, c189, c190, c191, c192, c193, c194, c195, c196, c197, c198, c199, c200, c201, c202, c203, c204, c205, c206, c207, c208, c209, c210, c211, c212, c213, c214, c215, c216, c217, c218, c219, c220, c221, c222, c223, c224, c225, c226, c227, c228, c229, c230, c231, c232, c233, c234, c235, c236, c237, c238, c239, c240, c241, c242, c243, c244, c245, c246, c247, c248, c249, c250, c251, c252, c253, c254, c255, c256, c257, c258, c259, c260, c261, c262, c263, c264, c265, c266, c267, c268, c269, c270, c271, c272, c273, c274, c275, c276, c277, c278, c279, c280, c281, c282, c283, c284, c285, c286, c287, c288, c289, c290, c291, c292, c293, c294, c295, c296, c297, c298, c299, c300, c301, c302, c303, c304, c305, c306, c307, c308, c309, c310, c311, c312, c313, c314, c315, c316, c317, c318, c319, c320, c321, c322, c323, c324, c325, c326], []⟩ wE) := hrest
  have hA : Aside (L1 w tb ab N len V S E len wB ∧ L2 wB n len V key C n kv cv wr ∧ (∀ j, j < len → (0 < S j ∧ S j ≤ 1000000) ∧ (0 ≤ E j ∧ E j ≤ 1000000)) ∧ (∀ i, -1 ≤ key i ∧ key i ≤ 2) ∧ (∀ i, (C i).natAbs ≤ 2147483648)) := ⟨hL1, hL, hST, hkey, hC⟩
  have hNB := hL1.ltN
  have hlo := hL1.lo
  have hwB := hL1.below.size
  have hBr := hL.lt
  have hbase : wr.heap[tb]? = some (.cells #[.int .u64 0, .int .i64 100000, .pointer none] 29 (0, 0)) := (hL.below.block tb (by omega)).trans hL1.base
  have hS0 : wr.cell? ⟨tb, 0, none⟩ = some (.int .u64 0) ∧ wr.cell? ⟨tb, 1, none⟩ = some (.int .i64 100000) ∧ wr.cell? ⟨tb, 2, none⟩ = some (.pointer none) := ⟨Joins.cell_of_block hbase 0, Joins.cell_of_block hbase 1, Joins.cell_of_block hbase 2⟩
  have h8 := fun W (hl : Lays wr W) => call8 hn hlen sp hsp (fun j hj => (hST j hj).1.1) hkey hC hL1 hL hl
  have hk8 : ∀ W fb w', Lays wr W → P8 len N n (sp + 1) V key C W fb w' → w'.cell? ⟨tb, 0, none⟩ = some (.int .u64 0) ∧ w'.cell? ⟨tb, 1, none⟩ = some (.int .i64 100000) ∧ w'.cell? ⟨tb, 2, none⟩ = some (.pointer none) := fun W fb w' hl ⟨_, _, _, hH⟩ => by
    have hb : w'.heap[tb]? = wr.heap[tb]? := (hH.below.block tb (by have := hl.below.size; omega)).trans (hl.below.block tb (by omega))
    exact cells_keep hb hS0
  clear hrest hL1 hL hST hkey hC hbase
  have w1 : IntKind.i64.wrap f = f := (IntWalk.i64_left _).trans (by unfold wrap64; omega)
  have w2 : IntKind.i64.wrap d = d := (IntWalk.i64_left _).trans (by unfold wrap64; omega)
  have w3 : IntKind.i64.wrap sp = sp := (IntWalk.i64_left _).trans (by unfold wrap64; omega)
  conv => arg 2; whnf
  go_wp2
  rename_i K37 hK37
  have hK37' : Aside (∀ (a : Act) (w : World), _ → K37 a w) := hK37
  clear hK37
  refine law_r37 tb (sp + 1) _ _ wr hS0 (by omega) (P8 len N n (sp + 1) V key C) h8 hk8 _ _ _ _ _ _ _ _ _ _ _ _ _ _ _ _ _ _ _ _ _ _ _ _ _ _ _ _ _ _ _ _ _ _ _ _ _ _ _ _ _ _ _ _ _ _ _ _ _ _ _ _ _ _ _ _ _ _ _ _ _ _ _ _ _ _ _ _ _ _ _ _ _ _ _ _ _ _ _ _ _ _ _ _ _ _ _ _ _ _ _ _ _ _ _ _ _ _ _ _ _ _ _ _ _ _ _ _ _ _ _ _ _ _ _ _ _ _ _ _ _ _ _ _ _ _ _ _ _ _ _ _ _ _ _ _ _ _ _ _ _ _ _ _ _ _ _ _ _ _ _ _ _ _ _ _ _ _ _ _ _ _ (fun W fb w1 e156 e157 e158 e159 e160 e161 e162 hlW hP8 => ?_)
  refine hK37'.out _ _ ?_
  clear hK37' h8 hk8
  obtain ⟨hL1, hL, hST, hkey, hC⟩ := hA.out
  obtain ⟨nv, fv, hfbW, hH⟩ := hP8
  have hWs := hlW.below.size
  have hLW := hL.later hlW.below
  have hbB : Below wB.heap.size wB w1 := hLW.below.trans (hH.below.mono hLW.below.size)
  have hcon : ∀ i, i < len → Con w1 N W.heap.size V S E i := fun i hi => (((hL1.con i hi).below hNB hLW.below).con (by have := hST i hi; omega)).below (by omega) hH.below
  have hS1 : w1.cell? ⟨tb, 0, none⟩ = some (.int .u64 0) ∧ w1.cell? ⟨tb, 1, none⟩ = some (.int .i64 100000) ∧ w1.cell? ⟨tb, 2, none⟩ = some (.pointer none) := cells_keep ((hH.below.block tb (by omega)).trans (hlW.below.block tb (by omega))) hS0
  have h9 := fun W2 (hl : Lays w1 W2) => call9 (W.heap.size + 2) len N W.heap.size n fb V S E key C f d sp nv fv W w1 W2 hn hlen hf hd hsp hST hkey hC (by omega) (by omega) hcon hH hl
  have hW1s := hH.below.size
  have hk9 : ∀ W2 kv2 pv w', Lays w1 W2 → P9 w1.heap.size (W.heap.size + 2) V S E len (hist key C n).1 (hist key C n).2 (100000 + f) (100000 + (f + 1 + d)) (sp + 1) W2 kv2 pv w' → w1.heap.size ≤ W2.heap.size ∧ W2.heap.size ≤ w'.heap.size ∧ (∀ k, w1.heap.size ≤ k → k < W2.heap.size → w'.heap[k]? = W2.heap[k]?) ∧ w'.cell? ⟨tb, 0, none⟩ = some (.int .u64 0) ∧ w'.cell? ⟨tb, 1, none⟩ = some (.int .i64 100000) ∧ w'.cell? ⟨tb, 2, none⟩ = some (.pointer none) := fun W2 kv2 pv w' hl ⟨kb, vs, hkb, hb2, _, _, _, _, hE⟩ => by
    have hz := hl.below.size
    have hz2 := hE.size
    refine ⟨hz, by omega, fun k k1 k2 => hE.low k k2 (by omega) (by omega), ?_⟩
    exact cells_keep ((hE.low tb (by omega) (by omega) (by omega)).trans (hl.below.block tb (by omega))) hS1
  clear hcon
  have hA2 : Aside (Below wB.heap.size wB w1 ∧ wr.heap.size ≤ W.heap.size ∧ W.heap.size ≤ w1.heap.size ∧ Lays wr W ∧ Below W.heap.size W w1) := ⟨hbB, hWs, hW1s, hlW, hH.below⟩
  clear hH hbB hLW hlW hST hkey hC hL1 hL
  refine wp_seq_k fun K38 hK38 => ?_
  have hK38' : Aside (∀ (a : Act) (w : World), _ → K38 a w) := hK38
  clear hK38
  refine law_r38 tb fb f (f + 1 + d) w1 hS1 (by omega) (by omega) _ h9 hk9 (by omega) _ _ _ _ _ _ _ _ _ _ _ _ _ _ _ _ _ _ _ _ _ _ _ _ _ _ _ _ _ _ _ _ _ _ _ _ _ _ _ _ _ _ _ _ _ _ _ _ _ _ _ _ _ _ _ _ _ _ _ _ _ _ _ _ _ _ _ _ _ _ _ _ _ _ _ _ _ _ _ _ _ _ _ _ _ _ _ _ _ _ _ _ _ _ _ _ _ _ _ _ _ _ _ _ _ _ _ _ _ _ _ _ _ _ _ _ _ _ _ _ _ _ _ _ _ _ _ _ _ _ _ _ _ _ _ _ _ _ _ _ _ _ _ _ _ _ _ _ _ _ _ _ _ _ _ _ _ _ _ _ _ _ _ _ _ _ _ _ _ _ (fun W2 kv2 pv w' w2' ub e163 e164 e165 e166 e167 e168 e169 e170 hlW2 hP9 hub hF => ?_)
  refine hK38'.out _ _ ?_
  clear hK38' h9 hk9
  obtain ⟨hL1, hL, _, _, _⟩ := hA.out
  obtain ⟨hbB, _, _, hlW, hbW⟩ := hA2.out
  obtain ⟨kb, vs, hkb, hb2, rfl, hkc, hbc, hvis, hE⟩ := hP9
  have hz2 := hlW2.below.size
  have hzE := hE.size
  have hzF := hF.size
  -- all that lies below wr's end
  have hlow : ∀ k, k < wr.heap.size → w2'.heap[k]? = wr.heap[k]? := fun k hk => by
    rw [hF.oth k (by omega) (by omega), hE.low k (by omega) (by omega) (by omega), hlW2.below.block k (by omega), hbW.block k (by omega), hlW.below.block k hk]
  have hmap : ∀ r l, MapL W2 r l → MapL w2' r l := fun r l hM => by
    have hr := hM.lt
    have h1 : r ≠ kb := fun e => by
      subst e
      obtain ⟨c, t, f', hc⟩ := hkc
      exact map_no_cells hM _ _ _ hc
    have h2 : r ≠ W.heap.size + 2 + 2 := fun e => by
      subst e
      obtain ⟨c, t, f', hc⟩ := hbc
      exact map_no_cells hM _ _ _ hc
    have hM' := hM.block (hE.low r hr h1 h2)
    refine hM'.block (hF.oth r (by omega) (fun e => ?_))
    subst e
    rcases hF.was with hz | hz
    · exact map_no_cells hM' _ _ _ hz
    · omega
  have hrow : ∀ {e size m : Nat} {v : Value} {xs : List Value}, wr.ownsRow (wB.heap.size + 1) e size v m xs → w2'.ownsRow w.heap.size e size v m xs := fun hr => row_base (owns_far hr fun g hg => hlow g (by
    obtain ⟨_, cu, hcu⟩ := own_block hr hg
    exact (Array.getElem?_eq_some_iff.1 hcu).1)) (by omega)
  have hwr : Below w.heap.size w wr := hL1.below.trans (hL.below.mono hwB)
  have hLE : LE w tb ub (W2.heap.size + 3) (hist key C n).1 (hist key C n).2 vs kv cv pv (allP (sp + 1) (hist key C n).2 (csOf (100000 + f) (100000 + (f + 1 + d)) V S E len (hist key C n).1) (hist key C n).1.length) w2' := by
    obtain ⟨kcur, k1, k2, k3⟩ := hE.kds
    refine ⟨⟨?_, ?_, ?_, ?_, fun k hk => (hlow k (by omega)).trans (hwr.block k hk)⟩, (hlow tb (by omega)).trans ((hL.below.block tb (by omega)).trans hL1.base), hrow hL.kk, hrow hL.cc, hF.blk, ⟨kcur, ?_, k3⟩, fun j k hj => (hvis j k hj).later hmap, ?_⟩
    · rw [hF.os, hE.os, hlW2.below.os, hbW.os, hlW.below.os, hwr.os]
    · rw [hF.tape, hE.tape, hlW2.below.tape, hbW.tape, hlW.below.tape, hwr.tape]
    · rw [hF.output, hE.output, hlW2.below.output, hbW.output, hlW.below.output, hwr.output]
    · have := hwr.size; omega
    · refine (hF.oth _ (by omega) (fun e => ?_)).trans k1
      rcases hF.was with hz | hz
      · rw [← e] at hz
        unfold ZB at hz
        rw [k1] at hz
        cases hz
      · omega
    · refine row_base (owns_far hE.pcs fun g hg => ?_) (show w.heap.size ≤ W2.heap.size + 5 by omega)
      obtain ⟨_, cu, hcu⟩ := own_block hE.pcs hg
      refine hF.oth g (Array.getElem?_eq_some_iff.1 hcu).1 (fun e => ?_)
      rcases hF.was with hz | hz
      · rw [← e] at hz
        unfold ZB at hz
        rw [hcu] at hz
        cases hz
      · have := (Array.getElem?_eq_some_iff.1 hcu).1
        omega
  exact hAR.out ub (W2.heap.size + 3) vs pv w2' hLE _ _ _ _ _ _ _ _ _ _ _ _ _ _ _ _ _ _ _ _ _ _ _ _ _ _ _ _ _ _ _ _ _ _ _ _ _ _ _ _ _ _ _ _ _ _ _ _ _ _ _ _ _ _ _ _ _ _ _ _ _ _ _ _ _ _ _ _ _ _ _ _ _ _ _ _ _ _ _ _ _ _ _ _ _ _ _ _ _ _ _ _ _ _ _ _ _ _ _ _ _ _ _ _ _ _ _ _ _ _ _ _ _ _ _ _ _ _ _ _ _ _ _ _ _ _ _ _ _ _ _ _ _ _ _ _ _ _ _ _ _ _ _ _ _ _ _ _ _ _ _ _ _ _ _ _ _ _ _ _ _ _ _ _ _ _ _ _ _ _ _ _ _ _ _ _ _ _ _ _ _ _ _ _ _ _ _ _ _ _ _ _ _ _ _ _ _ _ _ _ _ _ _ _ _ _ _ _ _ _ _ _ _ _ _ _ _ _ _ _ _ _ _ _ _ _ _ _ _ _ _ _ _ _ _ _ _ _ _ _ _ _ _ _ _ _ _ _ _ _ _ _ _ _ _ _ _ _ _ _ _ _ _ _ _ _ _ _ _ _ _ _ _ _ _ _ _ _ _ _ _ _ _ _ _ _ _ _ _ _ _ _ _ _ _ _ _ _ _ _ _ _ _ _ _ _ _ _ _ _ _ _ _ _ _ _ _ _ _
end Go.Proofs.YbulkcelaGreatDoor
