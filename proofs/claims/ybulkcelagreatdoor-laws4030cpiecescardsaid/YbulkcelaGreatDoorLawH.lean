/-
  LawS4030CPieces: the pieces of one kind are checked (seat b4030aZD).
-/
import Derived.Test.YbulkcelaGreatDoorLawD
import Derived.Test.YbulkcelaGreatDoorLawQ
namespace Go.Proofs.YbulkcelaGreatDoor
open Go.RowKit Go.MapKept Go.Lib Go.Shelf Go.Maps Go.Sort

noncomputable def lawH : Code := (Ybaz.f3.body.bind (fromIn 69)).getD .skip

theorem row_int {w : World} {base g cap : Nat} {L : List Int} (h : w.ownsRow base 3 1 (.slice (some ⟨g, 0, none⟩) L.length cap) L.length (L.map (Value.int .i64))) {k : Nat} (hk : k < L.length) : g < w.heap.size ∧ w.cell? ⟨g, k, none⟩ = some (.int .i64 (L.getD k 0)) := by
  obtain ⟨_, h1, h2⟩ := owns_cell h (j := k) (u := .int .i64 (L.getD k 0)) (by simp [List.getD, hk])
  exact ⟨h1, h2⟩

theorem row_piece {w : World} {base g cap : Nat} {L : List (Nat × Nat × Int)} (h : w.ownsRow base 64 6 (.slice (some ⟨g, 0, none⟩) L.length cap) L.length (L.flatMap encP)) {k : Nat} {p : Nat × Nat × Int} (hk : L[k]? = some p) : ∀ c, c < 6 → w.cell? ⟨g, k * 6 + c, none⟩ = (encP p)[c]? := fun c hc => by
  have hkl := (List.getElem?_eq_some_iff.1 hk).1
  obtain ⟨_, ⟨e, _⟩ | ⟨g', cp, cur, e, h2, h3, h4, h5, h6, h7⟩⟩ := h
  · cases e
  cases e
  have hg := encP_get L k c p hc hk
  rw [← h7, List.getElem?_take, if_pos (by omega)] at hg
  rw [Joins.cell_of_block h3, ← hg]
  simp

set_option linter.unusedSimpArgs false in
set_option maxRecDepth 100000 in
set_option maxHeartbeats 4000000 in
theorem law_H (tb ub kd i cg cap k0 B : Nat) (ks ds CL : List Int) (vs : Nat → Value) (kv cv pv : Value) (PL : List (Nat × Nat × Int)) (sp dd : Int) (w w0 : World) (hLE : LE w tb ub kd ks ds vs kv cv pv PL w0) (hi : i < ks.length) (hdl : ds.length = ks.length) (hdd : ds.getD i 0 = dd) (hdn : dd.natAbs < 9007199254740992) (hcut : w0.ownsRow B 3 1 (.slice (some ⟨cg, 0, none⟩) CL.length cap) CL.length (CL.map (Value.int .i64))) (hCL : CL.length ≤ 1000) (hCp : 1 ≤ CL.length) (hCr : ∀ c ∈ CL, -1000000 ≤ c ∧ c ≤ 1000000) (hCs : CL.Pairwise (· < ·)) (hgap : ∀ a ∈ CL, ∀ b ∈ CL, b - a ≤ 1000000) (hsp0 : 0 < sp) (hsp1 : sp ≤ 1000000)
    (hPL : ∀ m, m + 1 < CL.length → PL[k0 + m]? = some (i, cntOf dd sp (CL.getD m 0) (CL.getD (m + 1) 0), 100000 + CL.getD m 0)) (hPb : PL.length ≤ 1000000000) (hk0 : k0 ≤ 1000000000)
    (Q : Exit → Act → World → Prop) (c0 c1 c2 c3 c4 c5 c6 c7 c8 c9 c10 c12 c13 c14 c15 c16 c17 c18 c20 c21 c22 c23 c24 c25 c26 c27 c29 c33 c34 c35 c36 c37 c39 c40 c41 c42 c43 c44 c45 c46 c47 c48 c49 c50 c51 c52 c53 c54 c55 c56 c57 c58 c59 c60 c61 c62 c63 c64 c65 c66 c67 c68 c69 c70 c71 c72 c73 c74 c75 c76 c77 c78 c79 c80 c81 c82 c83 c84 c85 c86 c87 c88 c89 c90 c91 c92 c93 c94 c95 c96 c97 c98 c99 c100 c101 c102 c103 c104 c105 c106 c107 c108 c109 c110 c111 c112 c113 c114 c115 c116 c117 c118 c119 c120 c121 c122 c123 c124 c125 c126 c127 c128 c129 c130 c131 c132 c133 c134 c135 c136 c137 c138 c139 c140 c141 c142 c143 c144 c145 c146 c147 c148 c149 c150 c151 c152 c153 c154 c155 c156 c157 c158 c159 c160 c161 c162 c163 c164 c165 c166 c167 c168 c169 c170 c171 c172 c173 c174 c175 c176 c177 c178 c179 c180 c181 c182 c183 c184 c185 c186 c187 c188 c189 c190 c191 c192 c193 c194 c195 c196 c197 c198 c199 c200 c201 c202 c203 c204 c205 c206 c207 c208 c209 c210 c211 c212 c213 c214 c215 c216 c217 c218 c219 c220 c221 c222 c223 c224 c225 c226 c227 c228 c229 c230 c231 c232 c233 c234 c235 c236 c237 c238 c239 c240 c241 c242 c243 c244 c245 c246 c247 c248 c249 c250 c251 c252 c253 c254 c255 c256 c257 c258 c259 c260 c261 c262 c263 c264 c265 c266 c267 c268 c269 c270 c271 c272 c273 c274 c275 c276 c277 c278 c279 c280 c281 c282 c283 c284 c285 c286 c287 c288 c289 c290 c291 c292 c293 c294 c295 c296 c297 c298 c299 c300 c301 c302 c303 c304 c305 c306 c307 c308 c309 c310 c311 c312 c313 c314 c315 c316 c317 c318 c319 c320 c321 c322 c323 c324 c325 c326 : Value) (hQ : ∀ (w' : World) (e10 e41 e42 e43 e257 e258 e259 e260 e261 e262 e263 e264 e265 e266 e267 e268 e269 e270 e271 e272 e273 e274 e275 e276 e277 e278 e279 e280 e281 e282 e283 e284 e285 e286 e287 e288 e289 e290 e291 e292 e293 e294 e295 e296 e297 e298 e299 e300 e301 e302 e303 e304 e305 e306 e307 e308 e309 e310 e311 e312 e313 e314 e315 e316 e317 e318 e319 e320 : Value), Below w0.heap.size w0 w' → Q .normal ⟨#[c0, c1, c2, c3, c4, c5, c6, c7, c8, c9, e10, .pointer (some ⟨tb, 0, none⟩), c12, c13, c14, c15, c16, c17, c18, cv, c20, c21, c22, c23, c24, c25, c26, c27, .int .i64 sp, c29, .pointer (some ⟨ub, 0, none⟩), .int .i64 ((k0 + (CL.length - 1) : Nat) : Int), .int .i64 (i : Nat), c33, c34, c35, c36, c37, .slice (some ⟨cg, 0, none⟩) CL.length cap, c39, c40, e41, e42, e43, c44, c45, c46, c47, c48, c49, c50, c51, c52, c53, c54, c55, c56, c57, c58, c59, c60, c61, c62, c63, c64, c65, c66, c67, c68, c69, c70, c71, c72, c73, c74, c75, c76, c77, c78, c79, c80, c81, c82, c83, c84, c85, c86, c87, c88, c89, c90, c91, c92, c93, c94, c95, c96, c97, c98, c99, c100, c101, c102, c103, c104, c105, c106, c107, c108, c109, c110, c111, c112, c113, c114, c115, c116, c117, c118, c119, c120, c121, c122, c123, c124, c125, c126, c127, c128, c129, c130, c131, c132, c133, c134, c135, c136, c137, c138, c139, c140, c141, c142, c143, c144, c145, c146, c147, c148, c149, c150, c151, c152, c153, c154, c155, c156, c157, c158, c159, c160, c161, c162, c163, c164, c165, c166, c167, c168, c169, c170, c171, c172, c173, c174, c175, c176, c177, c178, c179, c180, c181, c182, c183, c184, c185, c186, c187, c188, c189, c190, c191, c192, c193, c194, c195, c196, c197, c198, c199, c200, c201, c202, c203, c204, c205, c206, c207, c208, c209, c210, c211, c212, c213, c214, c215, c216, c217, c218, c219, c220, c221, c222, c223, c224, c225, c226, c227, c228, c229, c230, c231, c232, c233, c234, c235, c236, c237, c238, c239, c240, c241, c242, c243, c244, c245, c246, c247, c248, c249, c250, c251, c252, c253, c254, c255, c256, e257, e258, e259, e260, e261, e262, e263, e264, e265, e266, e267, e268, e269, e270, e271, e272, e273, e274, e275, e276, e277, e278, e279, e280, e281, e282, e283, e284, e285, e286, e287, e288, e289, e290, e291, e292, e293, e294, e295, e296, e297, e298, e299, e300, e301, e302, e303, e304, e305, e306, e307, e308, e309, e310, e311, e312, e313, e314, e315, e316, e317, e318, e319, e320, c321, c322, c323, c324, c325, c326], []⟩ w') :
    lawH.wp Ybaz.prog Q ⟨#[c0, c1, c2, c3, c4, c5, c6, c7, c8, c9, c10, .pointer (some ⟨tb, 0, none⟩), c12, c13, c14, c15, c16, c17, c18, cv, c20, c21, c22, c23, c24, c25, c26, c27, .int .i64 sp, c29, .pointer (some ⟨ub, 0, none⟩), .int .i64 (k0 : Nat), .int .i64 (i : Nat), c33, c34, c35, c36, c37, .slice (some ⟨cg, 0, none⟩) CL.length cap, c39, c40, c41, c42, c43, c44, c45, c46, c47, c48, c49, c50, c51, c52, c53, c54, c55, c56, c57, c58, c59, c60, c61, c62, c63, c64, c65, c66, c67, c68, c69, c70, c71, c72, c73, c74, c75, c76, c77, c78, c79, c80, c81, c82, c83, c84, c85, c86, c87, c88, c89, c90, c91, c92, c93, c94, c95, c96, c97, c98, c99, c100, c101, c102, c103, c104, c105, c106, c107, c108, c109, c110, c111, c112, c113, c114, c115, c116, c117, c118, c119, c120, c121, c122, c123, c124, c125, c126, c127, c128, c129, c130, c131, c132, c133, c134, c135, c136, c137, c138, c139, c140, c141, c142, c143, c144, c145, c146, c147, c148, c149, c150, c151, c152, c153, c154, c155, c156, c157, c158, c159, c160, c161, c162, c163, c164, c165, c166, c167, c168, c169, c170, c171, c172, c173, c174, c175, c176, c177, c178, c179, c180, c181, c182, c183, c184, c185, c186, c187, c188, c189, c190, c191, c192, c193, c194, c195, c196, c197, c198, c199, c200, c201, c202, c203, c204, c205, c206, c207, c208, c209, c210, c211, c212, c213, c214, c215, c216, c217, c218, c219, c220, c221, c222, c223, c224, c225, c226, c227, c228, c229, c230, c231, c232, c233, c234, c235, c236, c237, c238, c239, c240, c241, c242, c243, c244, c245, c246, c247, c248, c249, c250, c251, c252, c253, c254, c255, c256, c257, c258, c259, c260, c261, c262, c263, c264, c265, c266, c267, c268, c269, c270, c271, c272, c273, c274, c275, c276, c277, c278, c279, c280, c281, c282, c283, c284, c285, c286, c287, c288, c289, c290, c291, c292, c293, c294, c295, c296, c297, c298, c299, c300, c301, c302, c303, c304, c305, c306, c307, c308, c309, c310, c311, c312, c313, c314, c315, c316, c317, c318, c319, c320, c321, c322, c323, c324, c325, c326], []⟩ w0 := by
  have hAQ : Aside (∀ (w' : World) (e10 e41 e42 e43 e257 e258 e259 e260 e261 e262 e263 e264 e265 e266 e267 e268 e269 e270 e271 e272 e273 e274 e275 e276 e277 e278 e279 e280 e281 e282 e283 e284 e285 e286 e287 e288 e289 e290 e291 e292 e293 e294 e295 e296 e297 e298 e299 e300 e301 e302 e303 e304 e305 e306 e307 e308 e309 e310 e311 e312 e313 e314 e315 e316 e317 e318 e319 e320 : Value), Below w0.heap.size w0 w' → Q .normal ⟨#[c0, c1, c2, c3, c4, c5, c6, c7, c8, c9, e10, .pointer (some ⟨tb, 0, none⟩), c12, c13, c14, c15, c16, c17, c18, cv, c20, c21, c22, c23, c24, c25, c26, c27, .int .i64 sp, c29, .pointer (some ⟨ub, 0, none⟩), .int .i64 ((k0 + (CL.length - 1) : Nat) : Int), .int .i64 (i : Nat), c33, c34, c35, c36, c37, .slice (some ⟨cg, 0, none⟩) CL.length cap, c39, c40, e41, e42, e43, c44, c45, c46, c47, c48, c49, c50, c51, c52, c53, c54, c55, c56, c57, c58, c59, c60, c61, c62, c63, c64, c65, c66, c67, c68, c69, c70, c71, c72, c73, c74, c75, c76, c77, c78, c79, c80, c81, c82, c83, c84, c85, c86, c87, c88, c89, c90, c91, c92, c93, c94, c95, c96, c97, c98, c99, c100, c101, c102, c103, c104, c105, c106, c107, c108, c109, c110, c111, c112, c113, c114, c115, c116, c117, c118, c119, c120, c121, c122, c123, c124, c125, c126, c127, c128, c129, c130, c131, c132, c133, c134, c135, c136, c137, c138, c139, c140, c141, c142, c143, c144, c145, c146, c147, c148, c149, c150, c151, c152, c153, c154, c155, c156, c157, c158, c159, c160, c161, c162, c163, c164, c165, c166, c167, c168, c169, c170, c171, c172, c173, c174, c175, c176, c177, c178, c179, c180, c181, c182, c183, c184, c185, c186, c187, c188, c189, c190, c191, c192, c193, c194, c195, c196, c197, c198, c199, c200, c201, c202, c203, c204, c205, c206, c207, c208, c209, c210, c211, c212, c213, c214, c215, c216, c217, c218, c219, c220, c221, c222, c223, c224, c225, c226, c227, c228, c229, c230, c231, c232, c233, c234, c235, c236, c237, c238, c239, c240, c241, c242, c243, c244, c245, c246, c247, c248, c249, c250, c251, c252, c253, c254, c255, c256, e257, e258, e259, e260, e261, e262, e263, e264, e265, e266, e267, e268, e269, e270, e271, e272, e273, e274, e275, e276, e277, e278, e279, e280, e281, e282, e283, e284, e285, e286, e287, e288, e289, e290, e291, e292, e293, e294, e295, e296, e297, e298, e299, e300, e301, e302, e303, e304, e305, e306, e307, e308, e309, e310, e311, e312, e313, e314, e315, e316, e317, e318, e319, e320, c321, c322, c323, c324, c325, c326], []⟩ w') := hQ
  have hA : Aside (LE w tb ub kd ks ds vs kv cv pv PL w0 ∧ w0.ownsRow B 3 1 (.slice (some ⟨cg, 0, none⟩) CL.length cap) CL.length (CL.map (Value.int .i64)) ∧ (∀ c ∈ CL, -1000000 ≤ c ∧ c ≤ 1000000) ∧ CL.Pairwise (· < ·) ∧ (∀ a ∈ CL, ∀ b ∈ CL, b - a ≤ 1000000) ∧ ∀ m, m + 1 < CL.length → PL[k0 + m]? = some (i, cntOf dd sp (CL.getD m 0) (CL.getD (m + 1) 0), 100000 + CL.getD m 0)) := ⟨hLE, hcut, hCr, hCs, hgap, hPL⟩
  obtain ⟨cb, cc, rfl⟩ := Joins.ownsRow_form hLE.cc (by omega)
  clear hQ hLE hcut hCr hCs hPL hgap
  conv => arg 2; whnf
  go_wp2
  go_loopg [41, 31] (CL.length + 1) (fun q v41 v31 wx => ∃ m : Nat, v41 = .int .i64 ((m : Nat) + 1 : Int) ∧ v31 = .int .i64 ((k0 + m : Nat) : Int) ∧ m + 1 ≤ CL.length ∧ CL.length - m < q ∧ Below w0.heap.size w0 wx)
  case atStart => exact ⟨0, rfl, rfl, hCp, by omega, Below.refl _ _⟩
  case round =>
    obtain ⟨m, rfl, rfl, hmn, hq, hbel⟩ := hrel
    by_cases hlt : m + 1 < CL.length
    · obtain ⟨hLE0, hcut0, hCr, hCs, hgap, hPL⟩ := hA.out
      have hLE := hLE0.later hbel
      have hcut := row_below hcut0 hbel
      have hp := hPL m hlt
      have hkl := (List.getElem?_eq_some_iff.1 hp).1
      obtain ⟨hcg, a1⟩ := row_int hcut (k := m) (by omega)
      obtain ⟨_, b1⟩ := row_int hcut (k := m + 1) hlt
      have hab := getD_lt hCs hlt
      have ha := hCr _ (getD_mem (show m < CL.length by omega))
      have hb := hCr _ (getD_mem hlt)
      have hg := hgap _ (getD_mem (show m < CL.length by omega)) _ (getD_mem hlt)
      obtain ⟨a, haa⟩ : ∃ a, CL.getD m 0 = a := ⟨_, rfl⟩
      obtain ⟨b, hbb⟩ : ∃ b, CL.getD (m + 1) 0 = b := ⟨_, rfl⟩
      rw [haa] at a1 ha hab hp hg
      rw [hbb] at b1 hb hab hp hg
      obtain ⟨r, hr, hnum⟩ := fi_quo (b - a) sp (by omega) hg hsp0 hsp1
      obtain ⟨t, ht, hord⟩ := fi_mul dd hdn r hnum
      have hcnt : cntOf dd sp a b = t := by unfold cntOf; rw [hr, Option.bind_some, ht]; rfl
      rw [hcnt] at hp
      obtain ⟨pg, pc, rfl⟩ := Joins.ownsRow_form hLE.pcs (by omega)
      have hpc := row_piece hLE.pcs hp
      have p0 : wr.cell? ⟨pg, (k0 + m) * 6, none⟩ = some (.int .i64 (i : Nat)) := hpc 0 (by omega)
      have p1 : wr.cell? ⟨pg, (k0 + m) * 6 + 1, none⟩ = some (.float .f64 t) := hpc 1 (by omega)
      have p2 : wr.cell? ⟨pg, (k0 + m) * 6 + 2, none⟩ = some (.int .u64 0) := hpc 2 (by omega)
      have p3 : wr.cell? ⟨pg, (k0 + m) * 6 + 3, none⟩ = some (.int .i64 (100000 + a)) := hpc 3 (by omega)
      have p4 : wr.cell? ⟨pg, (k0 + m) * 6 + 4, none⟩ = some (.pointer none) := hpc 4 (by omega)
      have p5 : wr.cell? ⟨pg, (k0 + m) * 6 + 5, none⟩ = some (.bool false) := hpc 5 (by omega)
      have u1 : wr.cell? ⟨ub, 1, none⟩ = some (.slice (some ⟨pg, 0, none⟩) PL.length pc) := Joins.cell_of_block hLE.sup 1
      have hki : ((k0 + m : Nat) : Int) < (PL.length : Int) := by omega
      have hkn : ¬ ((PL.length : Int) ≤ ((k0 + m : Nat) : Int)) := by omega
      have hlt' : (m : Int) + 1 < (CL.length : Int) := by omega
      obtain ⟨kk, hkk⟩ : ∃ kk, k0 + m = kk := ⟨_, rfl⟩
      rw [hkk] at p0 p1 p2 p3 p4 p5 hki hkn hkl
      rw [hkk]
      have hkb : (kk : Int) ≤ 2000000000 := by omega
      have hA1 : Aside (LE w tb ub kd ks ds vs kv (.slice (some ⟨cb, 0, none⟩) ks.length cc) (.slice (some ⟨pg, 0, none⟩) PL.length pc) PL wr) := hLE
      have hAk : Aside (k0 + m = kk) := hkk
      have hnb : (wr.alloc (.cells #[.int .i64 (i : Nat), .float .f64 0, .int .u64 0, .int .i64 0, .pointer none, .bool false] 64)).heap[wr.heap.size]? = some (.cells #[.int .i64 (i : Nat), .float .f64 0, .int .u64 0, .int .i64 0, .pointer none, .bool false] 64 (0, 0)) := by rw [alloc_at, if_pos rfl]
      have hstf := store_float _ ⟨wr.heap.size, 1, none⟩ (.float .f64 0) t (Joins.cell_of_block hnb 1) (Joins.unfrozen_of_block hnb 1)
      clear hLE hLE0 hcut hcut0 hCr hCs hgap hPL hp hpc hnum hcnt haa hbb hkk hnb
      go_wp2
      obtain ⟨W1, hW1⟩ : ∃ W1, wr.alloc (.cells #[.int .i64 (i : Nat), .float .f64 t, .int .u64 0, .int .i64 (100000 + a), .pointer none, .bool false] 64) = W1 := ⟨_, rfl⟩
      have hb1 : Below wr.heap.size wr W1 := by rw [← hW1]; exact (Below.refl _ _).alloc (Nat.le_refl _) _
      have hpb : W1.heap[wr.heap.size]? = some (.cells #[.int .i64 (i : Nat), .float .f64 t, .int .u64 0, .int .i64 (100000 + a), .pointer none, .bool false] 64 (0, 0)) := by rw [← hW1, alloc_at, if_pos rfl]
      have hs1 : W1.heap.size = wr.heap.size + 1 := by rw [← hW1]; simp
      have hLE1 := hA1.out.later hb1
      rw [hW1]
      have x0 : W1.cell? ⟨cb, i, none⟩ = some (.float .f64 (fi dd)) := by
        obtain ⟨_, _, h⟩ := owns_cell hLE1.cc (j := i) (u := .float .f64 (fi dd)) (by rw [List.getElem?_map, ← hdd]; simp [List.getD, show i < ds.length by omega])
        exact h
      have x1 : W1.cell? ⟨cg, m + 1, none⟩ = some (.int .i64 b) := (hb1.cell (p := ⟨cg, m + 1, none⟩) hcg).trans b1
      have x2 : W1.cell? ⟨cg, m, none⟩ = some (.int .i64 a) := (hb1.cell (p := ⟨cg, m, none⟩) hcg).trans a1
      have hbs := hLE1.base
      have htl := (Array.getElem?_eq_some_iff.1 hbs).1
      have hbw : Below w0.heap.size w0 W1 := hbel.trans (hb1.mono hbel.size)
      clear p0 p1 p2 p3 p4 p5 u1 hW1 hLE1 hstf a1 b1
      refine law_r76 cb ks.length cc i cg CL.length cap m a b sp dd r t W1 hi hlt (by omega) ha hb x0 x1 x2 hr ht _ _ _ _ _ _ _ _ _ _ _ _ _ _ _ _ _ _ _ _ _ _ _ _ _ _ _ _ _ _ _ _ _ _ _ _ _ _ _ _ _ _ _ _ _ _ _ _ _ _ _ _ _ _ _ _ _ _ _ _ _ _ _ _ _ _ _ _ _ _ _ _ _ _ _ _ _ _ _ _ _ _ _ _ _ _ _ _ _ _ _ _ _ _ _ _ _ _ _ _ _ _ _ _ _ _ _ _ _ _ _ _ _ _ _ _ _ _ _ _ _ _ _ _ _ _ _ _ _ _ _ _ _ _ _ _ _ _ _ _ _ _ _ _ _ _ _ _ _ _ _ _ _ _ _ _ _ _ _ _ _ _ _ _ _ _ _ _ _ _ _ _ _ _ _ _ _ _ _ _ _ _ _ _ _ _ _ _ _ _ _ _ _ _ _ _ _ _ _ _ _ _ _ _ _ _ _ _ _ _ _ _ _ _ _ _ _ _ _ _ _ _ _ _ _ _ _ _ _ _ _ _ _ _ _ _ _ _ _ _ _ _ _ _ _ _ _ _ _ _ _ _ _ _ _ _ _ _ _ _ _ _ _ _ _ _ _ _ _ _ _ _ _ _ _ _ _ _ _ _ _ _ _ _ _ _ _ _ _ _ _ _ (fun q1 e275 e276 e277 e278 e279 e280 e281 e282 e283 e284 e285 e286 e287 e288 e289 e290 e291 e292 e293 => ?_)
      go_wp2
      refine law_r77 tb wr.heap.size i cg CL.length cap m a t (W1.drewN q1) hlt (by omega) ha htl (by show wr.heap.size < W1.heap.size; omega) (by show cg < W1.heap.size; omega) hord (Joins.cell_of_block hbs 0) (Joins.cell_of_block hbs 1) (Joins.cell_of_block hbs 2) (Joins.cell_of_block hpb 0) (Joins.cell_of_block hpb 1) (Joins.cell_of_block hpb 2) (Joins.cell_of_block hpb 3) (Joins.cell_of_block hpb 4) (Joins.cell_of_block hpb 5) x2 _ _ _ _ _ _ _ _ _ _ _ _ _ _ _ _ _ _ _ _ _ _ _ _ _ _ _ _ _ _ _ _ _ _ _ _ _ _ _ _ _ _ _ _ _ _ _ _ _ _ _ _ _ _ _ _ _ _ _ _ _ _ _ _ _ _ _ _ _ _ _ _ _ _ _ _ _ _ _ _ _ _ _ _ _ _ _ _ _ _ _ _ _ _ _ _ _ _ _ _ _ _ _ _ _ _ _ _ _ _ _ _ _ _ _ _ _ _ _ _ _ _ _ _ _ _ _ _ _ _ _ _ _ _ _ _ _ _ _ _ _ _ _ _ _ _ _ _ _ _ _ _ _ _ _ _ _ _ _ _ _ _ _ _ _ _ _ _ _ _ _ _ _ _ _ _ _ _ _ _ _ _ _ _ _ _ _ _ _ _ _ _ _ _ _ _ _ _ _ _ _ _ _ _ _ _ _ _ _ _ _ _ _ _ _ _ _ _ _ _ _ _ _ _ _ _ _ _ _ _ _ _ _ _ _ _ _ _ _ _ _ _ _ _ _ _ _ _ _ _ _ _ _ _ _ _ _ _ _ _ _ _ _ _ _ _ _ _ _ _ _ _ _ _ _ _ _ _ _ _ _ _ _ _ _ _ _ _ _ _ _ _ _ _ _ _ _ _ _ _ _ _ _ _ _ _ _ _ _ _ _ _ _ _ _ _ _ _ (fun w2 e294 e295 e296 e297 e298 e299 e300 e301 e302 e303 e304 e305 e306 e307 e308 e309 e310 e311 e312 e313 e314 e315 e316 e317 e318 e319 hl2 => ?_)
      have hbn : Below w0.heap.size w0 w2 := hbw.trans (((below_drewN _ W1 q1).trans hl2.below).mono hbw.size)
      have hAn : Aside (Below w0.heap.size w0 w2) := hbn
      clear hbn hl2 hbw hbs hpb x0 x1 x2
      go_wp2
      go_roundg (CL.length - m)
      case measure => omega
      case rel => exact ⟨m + 1, by go_num, by have hz := hAk.out; congr 1; omega, by omega, by omega, hAn.out⟩
    · obtain ⟨kk, hkk⟩ : ∃ kk, k0 + m = kk := ⟨_, rfl⟩
      rw [hkk]
      have hkk2 : k0 + (CL.length - 1) = kk := by omega
      have hnlt : ¬ ((m : Int) + 1 < (CL.length : Int)) := by omega
      have hAb : Aside (Below w0.heap.size w0 wr ∧ k0 + (CL.length - 1) = kk) := ⟨hbel, hkk2⟩
      clear hbel hkk hkk2
      go_wp2
      have hfin := hAQ.out
      rw [hAb.out.2] at hfin
      exact hfin _ _ _ _ _ _ _ _ _ _ _ _ _ _ _ _ _ _ _ _ _ _ _ _ _ _ _ _ _ _ _ _ _ _ _ _ _ _ _ _ _ _ _ _ _ _ _ _ _ _ _ _ _ _ _ _ _ _ _ _ _ _ _ _ _ _ _ _ _ hAb.out.1
end Go.Proofs.YbulkcelaGreatDoor
