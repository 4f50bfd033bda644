/-
  LawS4030CPieces: the cuts of one kind, as the law makes them (seat b4030aZD).
-/
import Derived.Test.YbulkcelaGreatDoorLawH
import Derived.Sort.OwnSortedInts
namespace Go.Proofs.YbulkcelaGreatDoor
open Go.RowKit Go.MapKept Go.Lib Go.Shelf Go.Maps Go.Sort

noncomputable def lawG : Code := (Ybaz.f3.body.bind (fromIn 59)).getD .skip

theorem owns_take {w : World} {base e n k : Nat} {g cap : Nat} {xs : List Value} (h : w.ownsRow base e 1 (.slice (some ⟨g, 0, none⟩) n cap) n xs) (hk : k ≤ n) : w.ownsRow base e 1 (.slice (some ⟨g, 0, none⟩) k cap) k (xs.take k) := by
  obtain ⟨h0, ⟨e, _⟩ | ⟨g', cp, cur, e, h2, h3, h4, h5, h6, h7⟩⟩ := h
  · cases e
  cases e
  refine ⟨by simp; omega, .inr ⟨g, cap, cur, rfl, h2, h3, by omega, h5, h6, ?_⟩⟩
  rw [← h7, List.take_take, Nat.mul_one, Nat.mul_one, Nat.min_eq_left hk]

theorem sort10 {w : World} {B : Nat} {bv : Value} {L : List Int} (h : w.ownsRow B 3 1 bv L.length (L.map (Value.int .i64))) (hB : B ≤ w.heap.size) (hl : L.length ≤ 1000) :
    Calls Ybaz.prog 10 #[bv] w fun e w' => e = .returned (.tuple #[]) ∧ Below B w w' ∧ w'.ownsRow B 3 1 bv (sortI L).length ((sortI L).map (Value.int .i64)) := by
  obtain ⟨h0, ⟨rfl, h1⟩ | ⟨g, cap, cur, rfl, h2, h3, h4, h5, h6, h7⟩⟩ := h
  · obtain rfl := List.eq_nil_of_length_eq_zero h1
    have hc := AnyM.slices_Sort_int_none Ybaz.sortI none 0 w
    change Calls Ybaz.prog 10 _ _ _ at hc
    refine hc.mono ?_
    rintro e w' ⟨rfl, rfl⟩
    refine ⟨rfl, Below.refl _ _, ?_⟩
    have hs : sortI [] = [] := by have := sortI_length []; exact List.eq_nil_of_length_eq_zero this
    rw [hs]
    exact ⟨rfl, .inl ⟨rfl, rfl⟩⟩
  · have hH := holds_of_blockI h3 (by simpa using h7)
    have hc := AnyM.slices_Sort_int Ybaz.sortI g 0 cap L w hH (Array.getElem?_eq_some_iff.1 h3).1 (by omega)
    change Calls Ybaz.prog 10 _ _ _ at hc
    refine hc.mono fun e w' ⟨he, q, os, hw⟩ => ⟨he, ?_, ?_⟩
    · rw [hw]
      exact (Below.refl B w).grown (grownBy_sortedI _) hB (fun j e => by cases e; exact h2)
    · rw [hw, sortI_length]
      exact ownsRow_sortedI (sortI_length L) h2 h3 h4 h5 h6

theorem comp11 {w : World} {B : Nat} {bv : Value} {L : List Int} (h : w.ownsRow B 3 1 bv L.length (L.map (Value.int .i64))) (hB : B ≤ w.heap.size) (hl : L.length ≤ 1000) :
    Calls Ybaz.prog 11 #[bv] w fun e w' => ∃ bv', e = .returned bv' ∧ Below B w w' ∧ w'.ownsRow B 3 1 bv' (compact L).length ((compact L).map (Value.int .i64)) := by
  obtain ⟨h0, ⟨rfl, h1⟩ | ⟨g, cap, cur, rfl, h2, h3, h4, h5, h6, h7⟩⟩ := h
  · obtain rfl := List.eq_nil_of_length_eq_zero h1
    have hc := Any.slices_Compact_int_empty Ybaz.compI none 0 w
    change Calls Ybaz.prog 11 _ _ _ at hc
    refine hc.mono ?_
    rintro e w' ⟨rfl, rfl⟩
    refine ⟨_, rfl, Below.refl _ _, ?_⟩
    have hs : compact ([] : List Int) = [] := List.eq_nil_of_length_eq_zero (by have := compact_le []; simpa using this)
    rw [hs]
    exact ⟨rfl, .inl ⟨rfl, rfl⟩⟩
  · have hH := holds_of_blockI h3 (by simpa using h7)
    have hc := Any.slices_Compact_int Ybaz.compI g 0 cap L w hH (by omega) h4
    change Calls Ybaz.prog 11 _ _ _ at hc
    have hcl := compact_le L
    refine hc.mono fun e w' ⟨he, q, hw⟩ => ⟨_, he, ?_, ?_⟩
    · rw [hw, ← grow_empty (putRow _ _ _ _ _)]
      exact (Below.refl B w).grown (grownBy_sortedI _) hB (fun j e => by cases e; exact h2)
    · rw [hw, ← grow_empty (putRow _ _ _ _ _)]
      have hlen : (compact L ++ List.replicate (L.length - (compact L).length) 0).length = L.length := by simp; omega
      have hr := owns_take (ownsRow_sortedI (n := q) (os := #[]) hlen h2 h3 h4 h5 h6) hcl
      have ht : ((compact L ++ List.replicate (L.length - (compact L).length) 0).map (Value.int .i64)).take (compact L).length = (compact L).map (Value.int .i64) := by
        rw [List.map_append, List.take_append_of_le_length (by simp), List.take_of_length_le (by simp)]
      rw [ht] at hr
      exact hr

set_option linter.unusedSimpArgs false in
set_option maxRecDepth 100000 in
set_option maxHeartbeats 4000000 in
theorem law_G (tb ub kd i k0 : Nat) (ks ds T : List Int) (vs : Nat → Value) (kv cv pv bv : Value) (PL : List (Nat × Nat × Int)) (f t sp dd : Int) (w wE w0 : World) (hLE : LE w tb ub kd ks ds vs kv cv pv PL wE) (hb0 : Below wE.heap.size wE w0) (hbs : w0.ownsRow wE.heap.size 3 1 bv (T).length ((T).map (Value.int .i64))) (hT : T.length ≤ 700) (hTr : ∀ c ∈ T, -32768 ≤ c ∧ c ≤ 32767) (hf : -32768 ≤ f ∧ f ≤ 32767) (ht : -32768 ≤ t ∧ t ≤ 98303) (hft : f < t) (hi : i < ks.length) (hdl : ds.length = ks.length) (hdd : ds.getD i 0 = dd) (hdn : dd.natAbs < 9007199254740992) (hsp0 : 0 < sp) (hsp1 : sp ≤ 1000000)
    (hPL : ∀ m, m + 1 < (cutsOf f t (compact (sortI T))).length → PL[k0 + m]? = some (i, cntOf dd sp ((cutsOf f t (compact (sortI T))).getD m 0) ((cutsOf f t (compact (sortI T))).getD (m + 1) 0), 100000 + (cutsOf f t (compact (sortI T))).getD m 0)) (hPb : PL.length ≤ 1000000000) (hk0 : k0 ≤ 1000000000)
    (Q : Exit → Act → World → Prop) (c0 c1 c2 c3 c4 c5 c6 c7 c8 c9 c10 c12 c13 c14 c15 c16 c17 c18 c20 c21 c22 c23 c24 c25 c29 c33 c34 c36 c37 c38 c39 c40 c41 c42 c43 c44 c45 c46 c47 c48 c49 c50 c51 c52 c53 c54 c55 c56 c57 c58 c59 c60 c61 c62 c63 c64 c65 c66 c67 c68 c69 c70 c71 c72 c73 c74 c75 c76 c77 c78 c79 c80 c81 c82 c83 c84 c85 c86 c87 c88 c89 c90 c91 c92 c93 c94 c95 c96 c97 c98 c99 c100 c101 c102 c103 c104 c105 c106 c107 c108 c109 c110 c111 c112 c113 c114 c115 c116 c117 c118 c119 c120 c121 c122 c123 c124 c125 c126 c127 c128 c129 c130 c131 c132 c133 c134 c135 c136 c137 c138 c139 c140 c141 c142 c143 c144 c145 c146 c147 c148 c149 c150 c151 c152 c153 c154 c155 c156 c157 c158 c159 c160 c161 c162 c163 c164 c165 c166 c167 c168 c169 c170 c171 c172 c173 c174 c175 c176 c177 c178 c179 c180 c181 c182 c183 c184 c185 c186 c187 c188 c189 c190 c191 c192 c193 c194 c195 c196 c197 c198 c199 c200 c201 c202 c203 c204 c205 c206 c207 c208 c209 c210 c211 c212 c213 c214 c215 c216 c217 c218 c219 c220 c221 c222 c223 c224 c225 c226 c227 c228 c229 c230 c231 c232 c233 c234 c235 c236 c237 c238 c239 c240 c241 c242 c243 c244 c245 c246 c247 c248 c249 c250 c251 c252 c253 c254 c255 c256 c257 c258 c259 c260 c261 c262 c263 c264 c265 c266 c267 c268 c269 c270 c271 c272 c273 c274 c275 c276 c277 c278 c279 c280 c281 c282 c283 c284 c285 c286 c287 c288 c289 c290 c291 c292 c293 c294 c295 c296 c297 c298 c299 c300 c301 c302 c303 c304 c305 c306 c307 c308 c309 c310 c311 c312 c313 c314 c315 c316 c317 c318 c319 c320 c321 c322 c323 c324 c325 c326 : Value) (hQ : ∀ (w' : World) (e10 e35 e38 e40 e41 e42 e43 e228 e229 e230 e231 e232 e233 e234 e235 e236 e237 e238 e239 e240 e241 e242 e243 e244 e245 e246 e247 e248 e249 e250 e251 e252 e253 e254 e255 e256 e257 e258 e259 e260 e261 e262 e263 e264 e265 e266 e267 e268 e269 e270 e271 e272 e273 e274 e275 e276 e277 e278 e279 e280 e281 e282 e283 e284 e285 e286 e287 e288 e289 e290 e291 e292 e293 e294 e295 e296 e297 e298 e299 e300 e301 e302 e303 e304 e305 e306 e307 e308 e309 e310 e311 e312 e313 e314 e315 e316 e317 e318 e319 e320 : Value), Below wE.heap.size wE w' → Q .normal ⟨#[c0, c1, c2, c3, c4, c5, c6, c7, c8, c9, e10, .pointer (some ⟨tb, 0, none⟩), c12, c13, c14, c15, c16, c17, c18, cv, c20, c21, c22, c23, c24, c25, .int .i64 f, .int .i64 t, .int .i64 sp, c29, .pointer (some ⟨ub, 0, none⟩), ((.int .i64 ((k0 + ((cutsOf f t (compact (sortI T))).length - 1) : Nat) : Int)) : Value), .int .i64 (i : Nat), c33, c34, e35, c36, c37, e38, c39, e40, e41, e42, e43, c44, c45, c46, c47, c48, c49, c50, c51, c52, c53, c54, c55, c56, c57, c58, c59, c60, c61, c62, c63, c64, c65, c66, c67, c68, c69, c70, c71, c72, c73, c74, c75, c76, c77, c78, c79, c80, c81, c82, c83, c84, c85, c86, c87, c88, c89, c90, c91, c92, c93, c94, c95, c96, c97, c98, c99, c100, c101, c102, c103, c104, c105, c106, c107, c108, c109, c110, c111, c112, c113, c114, c115, c116, c117, c118, c119, c120, c121, c122, c123, c124, c125, c126, c127, c128, c129, c130, c131, c132, c133, c134, c135, c136, c137, c138, c139, c140, c141, c142, c143, c144, c145, c146, c147, c148, c149, c150, c151, c152, c153, c154, c155, c156, c157, c158, c159, c160, c161, c162, c163, c164, c165, c166, c167, c168, c169, c170, c171, c172, c173, c174, c175, c176, c177, c178, c179, c180, c181, c182, c183, c184, c185, c186, c187, c188, c189, c190, c191, c192, c193, c194, c195, c196, c197, c198, c199, c200, c201, c202, c203, c204, c205, c206, c207, c208, c209, c210, c211, c212, c213, c214, c215, c216, c217, c218, c219, c220, c221, c222, c223, c224, c225, c226, c227, e228, e229, e230, e231, e232, e233, e234, e235, e236, e237, e238, e239, e240, e241, e242, e243, e244, e245, e246, e247, e248, e249, e250, e251, e252, e253, e254, e255, e256, e257, e258, e259, e260, e261, e262, e263, e264, e265, e266, e267, e268, e269, e270, e271, e272, e273, e274, e275, e276, e277, e278, e279, e280, e281, e282, e283, e284, e285, e286, e287, e288, e289, e290, e291, e292, e293, e294, e295, e296, e297, e298, e299, e300, e301, e302, e303, e304, e305, e306, e307, e308, e309, e310, e311, e312, e313, e314, e315, e316, e317, e318, e319, e320, c321, c322, c323, c324, c325, c326], []⟩ w') :
    lawG.wp Ybaz.prog Q ⟨#[c0, c1, c2, c3, c4, c5, c6, c7, c8, c9, c10, .pointer (some ⟨tb, 0, none⟩), c12, c13, c14, c15, c16, c17, c18, cv, c20, c21, c22, c23, c24, c25, .int .i64 f, .int .i64 t, .int .i64 sp, c29, .pointer (some ⟨ub, 0, none⟩), .int .i64 (k0 : Nat), .int .i64 (i : Nat), c33, c34, bv, c36, c37, c38, c39, c40, c41, c42, c43, c44, c45, c46, c47, c48, c49, c50, c51, c52, c53, c54, c55, c56, c57, c58, c59, c60, c61, c62, c63, c64, c65, c66, c67, c68, c69, c70, c71, c72, c73, c74, c75, c76, c77, c78, c79, c80, c81, c82, c83, c84, c85, c86, c87, c88, c89, c90, c91, c92, c93, c94, c95, c96, c97, c98, c99, c100, c101, c102, c103, c104, c105, c106, c107, c108, c109, c110, c111, c112, c113, c114, c115, c116, c117, c118, c119, c120, c121, c122, c123, c124, c125, c126, c127, c128, c129, c130, c131, c132, c133, c134, c135, c136, c137, c138, c139, c140, c141, c142, c143, c144, c145, c146, c147, c148, c149, c150, c151, c152, c153, c154, c155, c156, c157, c158, c159, c160, c161, c162, c163, c164, c165, c166, c167, c168, c169, c170, c171, c172, c173, c174, c175, c176, c177, c178, c179, c180, c181, c182, c183, c184, c185, c186, c187, c188, c189, c190, c191, c192, c193, c194, c195, c196, c197, c198, c199, c200, c201, c202, c203, c204, c205, c206, c207, c208, c209, c210, c211, c212, c213, c214, c215, c216, c217, c218, c219, c220, c221, c222, c223, c224, c225, c226, c227, c228, c229, c230, c231, c232, c233, c234, c235, c236, c237, c238, c239, c240, c241, c242, c243, c244, c245, c246, c247, c248, c249, c250, c251, c252, c253, c254, c255, c256, c257, c258, c259, c260, c261, c262, c263, c264, c265, c266, c267, c268, c269, c270, c271, c272, c273, c274, c275, c276, c277, c278, c279, c280, c281, c282, c283, c284, c285, c286, c287, c288, c289, c290, c291, c292, c293, c294, c295, c296, c297, c298, c299, c300, c301, c302, c303, c304, c305, c306, c307, c308, c309, c310, c311, c312, c313, c314, c315, c316, c317, c318, c319, c320, c321, c322, c323, c324, c325, c326], []⟩ w0 := by
  have hAQ : Aside (∀ (w' : World) (e10 e35 e38 e40 e41 e42 e43 e228 e229 e230 e231 e232 e233 e234 e235 e236 e237 e238 e239 e240 e241 e242 e243 e244 e245 e246 e247 e248 e249 e250 e251 e252 e253 e254 e255 e256 e257 e258 e259 e260 e261 e262 e263 e264 e265 e266 e267 e268 e269 e270 e271 e272 e273 e274 e275 e276 e277 e278 e279 e280 e281 e282 e283 e284 e285 e286 e287 e288 e289 e290 e291 e292 e293 e294 e295 e296 e297 e298 e299 e300 e301 e302 e303 e304 e305 e306 e307 e308 e309 e310 e311 e312 e313 e314 e315 e316 e317 e318 e319 e320 : Value), Below wE.heap.size wE w' → Q .normal ⟨#[c0, c1, c2, c3, c4, c5, c6, c7, c8, c9, e10, .pointer (some ⟨tb, 0, none⟩), c12, c13, c14, c15, c16, c17, c18, cv, c20, c21, c22, c23, c24, c25, .int .i64 f, .int .i64 t, .int .i64 sp, c29, .pointer (some ⟨ub, 0, none⟩), ((.int .i64 ((k0 + ((cutsOf f t (compact (sortI T))).length - 1) : Nat) : Int)) : Value), .int .i64 (i : Nat), c33, c34, e35, c36, c37, e38, c39, e40, e41, e42, e43, c44, c45, c46, c47, c48, c49, c50, c51, c52, c53, c54, c55, c56, c57, c58, c59, c60, c61, c62, c63, c64, c65, c66, c67, c68, c69, c70, c71, c72, c73, c74, c75, c76, c77, c78, c79, c80, c81, c82, c83, c84, c85, c86, c87, c88, c89, c90, c91, c92, c93, c94, c95, c96, c97, c98, c99, c100, c101, c102, c103, c104, c105, c106, c107, c108, c109, c110, c111, c112, c113, c114, c115, c116, c117, c118, c119, c120, c121, c122, c123, c124, c125, c126, c127, c128, c129, c130, c131, c132, c133, c134, c135, c136, c137, c138, c139, c140, c141, c142, c143, c144, c145, c146, c147, c148, c149, c150, c151, c152, c153, c154, c155, c156, c157, c158, c159, c160, c161, c162, c163, c164, c165, c166, c167, c168, c169, c170, c171, c172, c173, c174, c175, c176, c177, c178, c179, c180, c181, c182, c183, c184, c185, c186, c187, c188, c189, c190, c191, c192, c193, c194, c195, c196, c197, c198, c199, c200, c201, c202, c203, c204, c205, c206, c207, c208, c209, c210, c211, c212, c213, c214, c215, c216, c217, c218, c219, c220, c221, c222, c223, c224, c225, c226, c227, e228, e229, e230, e231, e232, e233, e234, e235, e236, e237, e238, e239, e240, e241, e242, e243, e244, e245, e246, e247, e248, e249, e250, e251, e252, e253, e254, e255, e256, e257, e258, e259, e260, e261, e262, e263, e264, e265, e266, e267, e268, e269, e270, e271, e272, e273, e274, e275, e276, e277, e278, e279, e280, e281, e282, e283, e284, e285, e286, e287, e288, e289, e290, e291, e292, e293, e294, e295, e296, e297, e298, e299, e300, e301, e302, e303, e304, e305, e306, e307, e308, e309, e310, e311, e312, e313, e314, e315, e316, e317, e318, e319, e320, c321, c322, c323, c324, c325, c326], []⟩ w') := hQ
  have hAP : Aside (LE w tb ub kd ks ds vs kv cv pv PL wE ∧ (∀ c ∈ T, -32768 ≤ c ∧ c ≤ 32767) ∧ ∀ m, m + 1 < (cutsOf f t (compact (sortI T))).length → PL[k0 + m]? = some (i, cntOf dd sp ((cutsOf f t (compact (sortI T))).getD m 0) ((cutsOf f t (compact (sortI T))).getD (m + 1) 0), 100000 + (cutsOf f t (compact (sortI T))).getD m 0)) := ⟨hLE, hTr, hPL⟩
  have hsort := sort10 hbs hb0.size (by omega)
  have hcomp := fun (W : World) (h : W.ownsRow wE.heap.size 3 1 bv (sortI T).length ((sortI T).map (Value.int .i64))) (hB : wE.heap.size ≤ W.heap.size) => comp11 h hB (by rw [sortI_length]; omega)
  have hAb : Aside (Below wE.heap.size wE w0) := hb0
  have hz0 := hb0.size
  obtain ⟨i3, hi3, hz30, hz31, hz32⟩ := info_parts Ybaz.info3
  have H3 : Aside (Ybaz.prog.info? 3 = some i3 ∧ i3.zero = some (.int .i64 0) ∧ i3.size = 1 ∧ i3.bytes = 8) := ⟨hi3, hz30, hz31, hz32⟩
  clear hQ hLE hTr hPL hbs hb0 hi3 hz30 hz31 hz32
  conv => arg 2; whnf
  go_wp2_with fail
  refine hsort.mono ?_
  rintro e w1 ⟨rfl, hb1, hr1⟩
  dsimp only
  clear hsort
  have hz1 := hb1.size
  have hcomp1 := hcomp w1 hr1 (by omega)
  clear hcomp hr1
  go_wp2_with fail
  refine hcomp1.mono ?_
  rintro e w2 ⟨bv2, rfl, hb2, hr2⟩
  dsimp only
  clear hcomp1
  have hz2 := hb2.size
  obtain ⟨L, hL⟩ : ∃ L, (compact (sortI T)).length = L := ⟨_, rfl⟩
  have hLl : L ≤ 700 := by have := compact_le (sortI T); rw [sortI_length] at this; omega
  obtain ⟨bp, bc, hbv⟩ := own_form hr2
  rw [hL] at hbv
  subst hbv
  have hbe2 : Below wE.heap.size wE w2 := hAb.out.trans (hb1.trans hb2)
  have hA2 : Aside (Below wE.heap.size wE w2 ∧ w2.ownsRow wE.heap.size 3 1 (.slice bp L bc) (compact (sortI T)).length ((compact (sortI T)).map (Value.int .i64))) := ⟨hbe2, hr2⟩
  clear hb1 hb2 hr2 hbe2
  go_wp2
  rename_i K1 hK1
  have hK1' : Aside (∀ (a : Act) (w : World), _ → K1 a w) := hK1
  clear hK1
  have hst : (w2.alloc (.cells #[.int .i64 f] 3)).ownsRow w2.heap.size 3 1 (.slice (some ⟨w2.heap.size, 0, none⟩) 1 1) (f :: ((compact (sortI T)).take 0).filter fun b => decide (f < b) && decide (b < t)).length ((f :: ((compact (sortI T)).take 0).filter fun b => decide (f < b) && decide (b < t)).map (Value.int .i64)) := by
    simp only [List.take_zero, List.filter_nil, List.map_cons, List.map_nil, List.length_cons, List.length_nil]
    exact ⟨rfl, .inr ⟨w2.heap.size, 1, #[.int .i64 f], rfl, Nat.le_refl _, by rw [alloc_at, if_pos rfl], by omega, by decide, rfl, rfl⟩⟩
  have hAst : Aside ((w2.alloc (.cells #[.int .i64 f] 3)).ownsRow w2.heap.size 3 1 (.slice (some ⟨w2.heap.size, 0, none⟩) 1 1) (f :: ((compact (sortI T)).take 0).filter fun b => decide (f < b) && decide (b < t)).length ((f :: ((compact (sortI T)).take 0).filter fun b => decide (f < b) && decide (b < t)).map (Value.int .i64)) ∧ Below w2.heap.size w2 (w2.alloc (.cells #[.int .i64 f] 3))) := ⟨hst, (Below.refl _ _).alloc (Nat.le_refl _) _⟩
  clear hst
  go_loopg [236, 38] (L + 1) (fun q v236 v38 wx => ∃ (r : Nat) (cutv : Value), v236 = .int .i64 r ∧ v38 = cutv ∧ r ≤ L ∧ L - r < q ∧ Below w2.heap.size w2 wx ∧ wx.ownsRow w2.heap.size 3 1 cutv (f :: ((compact (sortI T)).take r).filter fun b => decide (f < b) && decide (b < t)).length ((f :: ((compact (sortI T)).take r).filter fun b => decide (f < b) && decide (b < t)).map (Value.int .i64)))
  case atStart => exact ⟨0, _, rfl, rfl, Nat.zero_le _, by omega, hAst.out.2, hAst.out.1⟩
  case round =>
    obtain ⟨r, cutv, rfl, hv38, hrL, hq, hbel, hrow⟩ := hrel
    obtain rfl := hv38.symm
    clear hv38
    by_cases hlt : r < L
    · have hbr := row_below hA2.out.2 (w' := wr) ⟨hbel.os, hbel.tape, hbel.output, hbel.size, hbel.block⟩
      obtain ⟨bg, rfl⟩ : ∃ bg, bp = some ⟨bg, 0, none⟩ := by
        obtain ⟨g, c, e⟩ := Joins.ownsRow_form hbr (by omega)
        injection e with e1 _ _
        exact ⟨g, e1⟩
      rw [← hL] at hbr
      obtain ⟨_, o1⟩ := row_int hbr (k := r) (by omega)
      obtain ⟨b, hb⟩ : ∃ b, (compact (sortI T)).getD r 0 = b := ⟨_, rfl⟩
      rw [hb] at o1
      have hnx : (compact (sortI T)).take (r + 1) = (compact (sortI T)).take r ++ [b] := take_next (by rw [← hb]; simp [List.getD, show r < (compact (sortI T)).length by omega])
      have hlt' : (r : Int) < (L : Int) := by omega
      have hAr : Aside (Below w2.heap.size w2 wr ∧ wr.ownsRow w2.heap.size 3 1 cutv (f :: ((compact (sortI T)).take r).filter fun b => decide (f < b) && decide (b < t)).length ((f :: ((compact (sortI T)).take r).filter fun b => decide (f < b) && decide (b < t)).map (Value.int .i64))) := ⟨hbel, hrow⟩
      have hAnx : Aside ((compact (sortI T)).take (r + 1) = (compact (sortI T)).take r ++ [b]) := hnx
      have hzr := hbel.size
      clear hbr hnx hb hbel
      by_cases hx1 : f < b
      · by_cases hy1 : b < t
        · have hCLn : (f :: ((compact (sortI T)).take (r + 1)).filter fun b => decide (f < b) && decide (b < t)) = (f :: ((compact (sortI T)).take r).filter fun b => decide (f < b) && decide (b < t)) ++ [b] := by
            rw [hAnx.out, List.filter_append]
            simp [hx1, hy1]
          obtain ⟨CL, hCL⟩ : ∃ CL, (f :: ((compact (sortI T)).take r).filter fun b => decide (f < b) && decide (b < t)) = CL := ⟨_, rfl⟩
          rw [hCL] at hCLn hAr hrow
          have hcl : CL.length ≤ 900 := by
            rw [← hCL, List.length_cons]
            have := List.length_filter_le (fun b => decide (f < b) && decide (b < t)) ((compact (sortI T)).take r)
            have := List.length_take_le r (compact (sortI T))
            omega
          have hACn : Aside ((f :: ((compact (sortI T)).take (r + 1)).filter fun b => decide (f < b) && decide (b < t)) = CL ++ [b]) := hCLn
          have hrow4 := hrow
          clear hCL hCLn hrow
          go_wp2_with (at_builtin; refine Veil.off ?_)
          unfold Veil
          refine wpList_append_lies _ rfl (.tmp 248) (.tmp 250) 44 rfl w2.heap.size 3 i3 (.int .i64 0) 1 8 Ybaz.underlying44 H3.out.1 H3.out.2.1 H3.out.2.2.1 H3.out.2.2.2 rfl (by decide) cutv CL.length _ rfl (hrow4.alloc _) ⟨wr.heap.size, 0, none⟩ 1 1 [.int .i64 b] rfl rfl ?a1 ?a2 (by decide) ?a3 ?a4 ?a5 _ rfl ?_
          case a1 => exact cell_one_new _ _ _
          case a2 => intro u hu; simp at hu; subst hu; rfl
          case a3 => unfold maxLen; omega
          case a4 => omega
          case a5 => simp; omega
          intro g cap w5 hown5 hgrow5 _ _
          have hb5 : Below w2.heap.size w2 w5 := (hAr.out.1.alloc hAr.out.1.size _).grown hgrow5 (by simp; have := hAr.out.1.size; omega) (fun j e => (own_block hAr.out.2 e).1)
          have hr5 : w5.ownsRow w2.heap.size 3 1 (.slice (some ⟨g, 0, none⟩) (CL.length + 1) cap) (CL ++ [b]).length ((CL ++ [b]).map (Value.int .i64)) := by
            rw [List.map_append, List.length_append]
            exact hown5
          have hA5 : Aside (Below w2.heap.size w2 w5 ∧ w5.ownsRow w2.heap.size 3 1 (.slice (some ⟨g, 0, none⟩) (CL.length + 1) cap) (CL ++ [b]).length ((CL ++ [b]).map (Value.int .i64))) := ⟨hb5, hr5⟩
          clear hb5 hr5 hown5 hgrow5 hrow4
          go_wp2
          go_roundg (L - r)
          case measure => omega
          case rel => exact ⟨r + 1, _, by go_num, rfl, by omega, by omega, hA5.out.1, by rw [hACn.out]; exact hA5.out.2⟩
        · have hCLn : (f :: ((compact (sortI T)).take (r + 1)).filter fun b => decide (f < b) && decide (b < t)) = (f :: ((compact (sortI T)).take r).filter fun b => decide (f < b) && decide (b < t)) := by
            rw [hAnx.out, List.filter_append]
            simp [hy1]
          have hACn : Aside ((f :: ((compact (sortI T)).take (r + 1)).filter fun b => decide (f < b) && decide (b < t)) = (f :: ((compact (sortI T)).take r).filter fun b => decide (f < b) && decide (b < t))) := hCLn
          clear hCLn hrow
          go_wp2
          go_roundg (L - r)
          case measure => omega
          case rel => exact ⟨r + 1, _, by go_num, rfl, by omega, by omega, hAr.out.1, by rw [hACn.out]; exact hAr.out.2⟩
      · have hCLn : (f :: ((compact (sortI T)).take (r + 1)).filter fun b => decide (f < b) && decide (b < t)) = (f :: ((compact (sortI T)).take r).filter fun b => decide (f < b) && decide (b < t)) := by
          rw [hAnx.out, List.filter_append]
          simp [hx1]
        have hACn : Aside ((f :: ((compact (sortI T)).take (r + 1)).filter fun b => decide (f < b) && decide (b < t)) = (f :: ((compact (sortI T)).take r).filter fun b => decide (f < b) && decide (b < t))) := hCLn
        clear hCLn hrow
        go_wp2
        go_roundg (L - r)
        case measure => omega
        case rel => exact ⟨r + 1, _, by go_num, rfl, by omega, by omega, hAr.out.1, by rw [hACn.out]; exact hAr.out.2⟩
    · obtain rfl : r = L := by omega
      obtain ⟨CL, hCL⟩ : ∃ CL, (f :: ((compact (sortI T)).take r).filter fun b => decide (f < b) && decide (b < t)) = CL := ⟨_, rfl⟩
      have hCLe : CL ++ [t] = cutsOf f t (compact (sortI T)) := by
        rw [← hCL, List.take_of_length_le (by omega)]
        rfl
      rw [hCL] at hrow
      have hcl : CL.length ≤ 900 := by
        rw [← hCL, List.length_cons]
        have := List.length_filter_le (fun b => decide (f < b) && decide (b < t)) ((compact (sortI T)).take r)
        have := List.length_take_le r (compact (sortI T))
        omega
      have hAr : Aside (Below w2.heap.size w2 wr ∧ wr.ownsRow w2.heap.size 3 1 cutv (CL).length ((CL).map (Value.int .i64))) := ⟨hbel, hrow⟩
      have hACe : Aside (CL ++ [t] = cutsOf f t (compact (sortI T))) := hCLe
      have hrow4 := hrow
      have hzr := hbel.size
      clear hCL hCLe hrow hbel
      go_wp2
      refine hK1'.out _ _ ?_
      refine wp_seq_k fun K2 hK2 => ?_
      have hK2' : Aside (∀ (a : Act) (w : World), _ → K2 a w) := hK2
      clear hK2
      go_wp2_with (at_builtin; refine Veil.off ?_)
      unfold Veil
      refine wpList_append_lies _ rfl (.tmp 253) (.tmp 255) 44 rfl w2.heap.size 3 i3 (.int .i64 0) 1 8 Ybaz.underlying44 H3.out.1 H3.out.2.1 H3.out.2.2.1 H3.out.2.2.2 rfl (by decide) cutv CL.length _ rfl (hrow4.alloc _) ⟨wr.heap.size, 0, none⟩ 1 1 [.int .i64 t] rfl rfl ?a1 ?a2 (by decide) ?a3 ?a4 ?a5 _ rfl ?_
      case a1 => exact cell_one_new _ _ _
      case a2 => intro u hu; simp at hu; subst hu; rfl
      case a3 => unfold maxLen; omega
      case a4 => omega
      case a5 => simp; omega
      intro g cap w5 hown5 hgrow5 _ _
      have hb5 : Below w2.heap.size w2 w5 := (hAr.out.1.alloc hAr.out.1.size _).grown hgrow5 (by simp; have := hAr.out.1.size; omega) (fun j e => (own_block hAr.out.2 e).1)
      have hr5 : w5.ownsRow w2.heap.size 3 1 (.slice (some ⟨g, 0, none⟩) (CL.length + 1) cap) (CL ++ [t]).length ((CL ++ [t]).map (Value.int .i64)) := by
        rw [List.map_append, List.length_append]
        exact hown5
      have hA5 : Aside (Below w2.heap.size w2 w5 ∧ w5.ownsRow w2.heap.size 3 1 (.slice (some ⟨g, 0, none⟩) (CL.length + 1) cap) (CL ++ [t]).length ((CL ++ [t]).map (Value.int .i64))) := ⟨hb5, hr5⟩
      clear hb5 hr5 hown5 hgrow5 hrow4
      go_wp2
      refine hK2'.out _ _ ?_
      obtain ⟨hLE, hTr, hPL⟩ := hAP.out
      have hlen1 : CL.length + 1 = (CL ++ [t]).length := by simp
      rw [hlen1]
      have hcs := hACe.out
      have hmem : ∀ c ∈ CL ++ [t], f ≤ c ∧ c ≤ t := fun c hc => by
        rw [hcs] at hc
        unfold cutsOf at hc
        rcases List.mem_cons.1 hc with h | h
        · omega
        · rcases List.mem_append.1 h with h | h
          · have := (List.mem_filter.1 h).2
            simp at this
            omega
          · simp at h; omega
      have hcp : (CL ++ [t]).Pairwise (· < ·) := by
        rw [hcs]
        exact cutsOf_strict hft (compact_strict (sortI_sorted _))
      have hbE : Below wE.heap.size wE w5 := hA2.out.1.trans (hA5.out.1.mono hA2.out.1.size)
      refine law_H tb ub kd i g cap k0 w2.heap.size ks ds (CL ++ [t]) vs kv cv pv PL sp dd w w5 (hLE.later hbE) hi hdl hdd hdn (by have h := hA5.out.2; rw [hlen1] at h; exact h) (by simp; omega) (by simp) (fun c hc => by have := hmem c hc; omega) hcp (fun a ha b hb => by have h1 := hmem a ha; have h2 := hmem b hb; omega) hsp0 hsp1 (by rw [hcs]; exact hPL) hPb hk0 _ _ _ _ _ _ _ _ _ _ _ _ _ _ _ _ _ _ _ _ _ _ _ _ _ _ _ _ _ _ _ _ _ _ _ _ _ _ _ _ _ _ _ _ _ _ _ _ _ _ _ _ _ _ _ _ _ _ _ _ _ _ _ _ _ _ _ _ _ _ _ _ _ _ _ _ _ _ _ _ _ _ _ _ _ _ _ _ _ _ _ _ _ _ _ _ _ _ _ _ _ _ _ _ _ _ _ _ _ _ _ _ _ _ _ _ _ _ _ _ _ _ _ _ _ _ _ _ _ _ _ _ _ _ _ _ _ _ _ _ _ _ _ _ _ _ _ _ _ _ _ _ _ _ _ _ _ _ _ _ _ _ _ _ _ _ _ _ _ _ _ _ _ _ _ _ _ _ _ _ _ _ _ _ _ _ _ _ _ _ _ _ _ _ _ _ _ _ _ _ _ _ _ _ _ _ _ _ _ _ _ _ _ _ _ _ _ _ _ _ _ _ _ _ _ _ _ _ _ _ _ _ _ _ _ _ _ _ _ _ _ _ _ _ _ _ _ _ _ _ _ _ _ _ _ _ _ _ _ _ _ _ _ _ _ _ _ _ _ _ _ _ _ _ _ _ _ _ _ _ _ _ _ _ _ _ _ _ _ _ _ _ _ _ _ _ _ _ _ _ _ _ _ _ _ _ _ _ _ _ _ _ _ _ _ _ _ _ _ _ _ ?_
      intro w' e10 e41 e42 e43 e257 e258 e259 e260 e261 e262 e263 e264 e265 e266 e267 e268 e269 e270 e271 e272 e273 e274 e275 e276 e277 e278 e279 e280 e281 e282 e283 e284 e285 e286 e287 e288 e289 e290 e291 e292 e293 e294 e295 e296 e297 e298 e299 e300 e301 e302 e303 e304 e305 e306 e307 e308 e309 e310 e311 e312 e313 e314 e315 e316 e317 e318 e319 e320 hbw
      have hfin := hAQ.out w'
      rw [← hcs] at hfin
      exact hfin _ _ _ _ _ _ _ _ _ _ _ _ _ _ _ _ _ _ _ _ _ _ _ _ _ _ _ _ _ _ _ _ _ _ _ _ _ _ _ _ _ _ _ _ _ _ _ _ _ _ _ _ _ _ _ _ _ _ _ _ _ _ _ _ _ _ _ _ _ _ _ _ _ _ _ _ _ _ _ _ _ _ _ _ _ _ _ _ _ _ _ _ _ _ _ _ _ _ _ _ (hbE.trans (hbw.mono hbE.size))
end Go.Proofs.YbulkcelaGreatDoor
