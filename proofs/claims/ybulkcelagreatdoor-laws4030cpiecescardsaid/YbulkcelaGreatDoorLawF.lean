/-
  LawS4030CPieces: the bounds of one kind, as the law gathers them (seat b4030aZD).
-/
import Derived.Test.YbulkcelaGreatDoorLawG
namespace Go.Proofs.YbulkcelaGreatDoor
open Go.RowKit Go.MapKept Go.Lib Go.Shelf Go.Maps Go.Sort

noncomputable def lawF : Code := (Ybaz.f3.body.bind (fromIn 51)).getD .skip

set_option linter.unusedSimpArgs false in
set_option maxRecDepth 100000 in
set_option maxHeartbeats 4000000 in
theorem law_F (a1 : Option Addr) (len cap1 tb ub kd i k0 : Nat) (M V : Nat → Nat) (s e : Nat → Int) (ks ds : List Int) (vs : Nat → Value) (kv cv pv : Value) (PL : List (Nat × Nat × Int)) (f t sp dd k : Int) (w wE w0 : World) (hV : ∀ j, V j = M j % 3) (hlen : len ≤ 300) (hArg : ArgC w w.heap.size a1 len M s e) (hkr : -1 ≤ k ∧ k ≤ 2) (hLE : LE w tb ub kd ks ds vs kv cv pv PL wE) (hb0 : Below wE.heap.size wE w0) (hf : -32768 ≤ f ∧ f ≤ 32767) (ht : -32768 ≤ t ∧ t ≤ 98303) (hft : f < t) (hi : i < ks.length) (hdl : ds.length = ks.length) (hdd : ds.getD i 0 = dd) (hdn : dd.natAbs < 9007199254740992) (hsp0 : 0 < sp) (hsp1 : sp ≤ 1000000)
    (hPL : ∀ m, m + 1 < (cutsOf f t (bdK V s e len k)).length → PL[k0 + m]? = some (i, cntOf dd sp ((cutsOf f t (bdK V s e len k)).getD m 0) ((cutsOf f t (bdK V s e len k)).getD (m + 1) 0), 100000 + (cutsOf f t (bdK V s e len k)).getD m 0)) (hPb : PL.length ≤ 1000000000) (hk0 : k0 ≤ 1000000000)
    (Q : Exit → Act → World → Prop) (c0 c2 c3 c4 c5 c6 c7 c8 c9 c10 c12 c13 c14 c15 c16 c17 c18 c20 c21 c22 c23 c24 c25 c29 c34 c35 c36 c37 c38 c39 c40 c41 c42 c43 c44 c45 c46 c47 c48 c49 c50 c51 c52 c53 c54 c55 c56 c57 c58 c59 c60 c61 c62 c63 c64 c65 c66 c67 c68 c69 c70 c71 c72 c73 c74 c75 c76 c77 c78 c79 c80 c81 c82 c83 c84 c85 c86 c87 c88 c89 c90 c91 c92 c93 c94 c95 c96 c97 c98 c99 c100 c101 c102 c103 c104 c105 c106 c107 c108 c109 c110 c111 c112 c113 c114 c115 c116 c117 c118 c119 c120 c121 c122 c123 c124 c125 c126 c127 c128 c129 c130 c131 c132 c133 c134 c135 c136 c137 c138 c139 c140 c141 c142 c143 c144 c145 c146 c147 c148 c149 c150 c151 c152 c153 c154 c155 c156 c157 c158 c159 c160 c161 c162 c163 c164 c165 c166 c167 c168 c169 c170 c171 c172 c173 c174 c175 c176 c177 c178 c179 c180 c181 c182 c183 c184 c185 c186 c187 c188 c189 c190 c191 c192 c193 c194 c195 c196 c197 c198 c199 c200 c201 c202 c203 c204 c205 c206 c207 c208 c209 c210 c211 c212 c213 c214 c215 c216 c217 c218 c219 c220 c221 c222 c223 c224 c225 c226 c227 c228 c229 c230 c231 c232 c233 c234 c235 c236 c237 c238 c239 c240 c241 c242 c243 c244 c245 c246 c247 c248 c249 c250 c251 c252 c253 c254 c255 c256 c257 c258 c259 c260 c261 c262 c263 c264 c265 c266 c267 c268 c269 c270 c271 c272 c273 c274 c275 c276 c277 c278 c279 c280 c281 c282 c283 c284 c285 c286 c287 c288 c289 c290 c291 c292 c293 c294 c295 c296 c297 c298 c299 c300 c301 c302 c303 c304 c305 c306 c307 c308 c309 c310 c311 c312 c313 c314 c315 c316 c317 c318 c319 c320 c321 c322 c323 c324 c325 c326 : Value) (hQ : ∀ (w' : World) (e10 e35 e37 e38 e40 e41 e42 e43 e204 e205 e206 e207 e208 e209 e210 e211 e212 e213 e214 e215 e216 e217 e218 e219 e220 e221 e222 e223 e224 e225 e226 e227 e228 e229 e230 e231 e232 e233 e234 e235 e236 e237 e238 e239 e240 e241 e242 e243 e244 e245 e246 e247 e248 e249 e250 e251 e252 e253 e254 e255 e256 e257 e258 e259 e260 e261 e262 e263 e264 e265 e266 e267 e268 e269 e270 e271 e272 e273 e274 e275 e276 e277 e278 e279 e280 e281 e282 e283 e284 e285 e286 e287 e288 e289 e290 e291 e292 e293 e294 e295 e296 e297 e298 e299 e300 e301 e302 e303 e304 e305 e306 e307 e308 e309 e310 e311 e312 e313 e314 e315 e316 e317 e318 e319 e320 : Value), Below wE.heap.size wE w' → Q .normal ⟨#[c0, .slice a1 len cap1, c2, c3, c4, c5, c6, c7, c8, c9, e10, .pointer (some ⟨tb, 0, none⟩), c12, c13, c14, c15, c16, c17, c18, cv, c20, c21, c22, c23, c24, c25, .int .i64 f, .int .i64 t, .int .i64 sp, c29, .pointer (some ⟨ub, 0, none⟩), ((.int .i64 ((k0 + ((cutsOf f t (bdK V s e len k)).length - 1) : Nat) : Int)) : Value), .int .i64 (i : Nat), .int .i64 k, c34, e35, c36, e37, e38, c39, e40, e41, e42, e43, c44, c45, c46, c47, c48, c49, c50, c51, c52, c53, c54, c55, c56, c57, c58, c59, c60, c61, c62, c63, c64, c65, c66, c67, c68, c69, c70, c71, c72, c73, c74, c75, c76, c77, c78, c79, c80, c81, c82, c83, c84, c85, c86, c87, c88, c89, c90, c91, c92, c93, c94, c95, c96, c97, c98, c99, c100, c101, c102, c103, c104, c105, c106, c107, c108, c109, c110, c111, c112, c113, c114, c115, c116, c117, c118, c119, c120, c121, c122, c123, c124, c125, c126, c127, c128, c129, c130, c131, c132, c133, c134, c135, c136, c137, c138, c139, c140, c141, c142, c143, c144, c145, c146, c147, c148, c149, c150, c151, c152, c153, c154, c155, c156, c157, c158, c159, c160, c161, c162, c163, c164, c165, c166, c167, c168, c169, c170, c171, c172, c173, c174, c175, c176, c177, c178, c179, c180, c181, c182, c183, c184, c185, c186, c187, c188, c189, c190, c191, c192, c193, c194, c195, c196, c197, c198, c199, c200, c201, c202, c203, e204, e205, e206, e207, e208, e209, e210, e211, e212, e213, e214, e215, e216, e217, e218, e219, e220, e221, e222, e223, e224, e225, e226, e227, e228, e229, e230, e231, e232, e233, e234, e235, e236, e237, e238, e239, e240, e241, e242, e243, e244, e245, e246, e247, e248, e249, e250, e251, e252, e253, e254, e255, e256, e257, e258, e259, e260, e261, e262, e263, e264, e265, e266, e267, e268, e269, e270, e271, e272, e273, e274, e275, e276, e277, e278, e279, e280, e281, e282, e283, e284, e285, e286, e287, e288, e289, e290, e291, e292, e293, e294, e295, e296, e297, e298, e299, e300, e301, e302, e303, e304, e305, e306, e307, e308, e309, e310, e311, e312, e313, e314, e315, e316, e317, e318, e319, e320, c321, c322, c323, c324, c325, c326], []⟩ w') :
    lawF.wp Ybaz.prog Q ⟨#[c0, .slice a1 len cap1, c2, c3, c4, c5, c6, c7, c8, c9, c10, .pointer (some ⟨tb, 0, none⟩), c12, c13, c14, c15, c16, c17, c18, cv, c20, c21, c22, c23, c24, c25, .int .i64 f, .int .i64 t, .int .i64 sp, c29, .pointer (some ⟨ub, 0, none⟩), .int .i64 (k0 : Nat), .int .i64 (i : Nat), .int .i64 k, c34, c35, c36, c37, c38, c39, c40, c41, c42, c43, c44, c45, c46, c47, c48, c49, c50, c51, c52, c53, c54, c55, c56, c57, c58, c59, c60, c61, c62, c63, c64, c65, c66, c67, c68, c69, c70, c71, c72, c73, c74, c75, c76, c77, c78, c79, c80, c81, c82, c83, c84, c85, c86, c87, c88, c89, c90, c91, c92, c93, c94, c95, c96, c97, c98, c99, c100, c101, c102, c103, c104, c105, c106, c107, c108, c109, c110, c111, c112, c113, c114, c115, c116, c117, c118, c119, c120, c121, c122, c123, c124, c125, c126, c127, c128, c129, c130, c131, c132, c133, c134, c135, c136, c137, c138, c139, c140, c141, c142, c143, c144, c145, c146, c147, c148, c149, c150, c151, c152, c153, c154, c155, c156, c157, c158, c159, c160, c161, c162, c163, c164, c165, c166, c167, c168, c169, c170, c171, c172, c173, c174, c175, c176, c177, c178, c179, c180, c181, c182, c183, c184, c185, c186, c187, c188, c189, c190, c191, c192, c193, c194, c195, c196, c197, c198, c199, c200, c201, c202, c203, c204, c205, c206, c207, c208, c209, c210, c211, c212, c213, c214, c215, c216, c217, c218, c219, c220, c221, c222, c223, c224, c225, c226, c227, c228, c229, c230, c231, c232, c233, c234, c235, c236, c237, c238, c239, c240, c241, c242, c243, c244, c245, c246, c247, c248, c249, c250, c251, c252, c253, c254, c255, c256, c257, c258, c259, c260, c261, c262, c263, c264, c265, c266, c267, c268, c269, c270, c271, c272, c273, c274, c275, c276, c277, c278, c279, c280, c281, c282, c283, c284, c285, c286, c287, c288, c289, c290, c291, c292, c293, c294, c295, c296, c297, c298, c299, c300, c301, c302, c303, c304, c305, c306, c307, c308, c309, c310, c311, c312, c313, c314, c315, c316, c317, c318, c319, c320, c321, c322, c323, c324, c325, c326], []⟩ w0 := by
  have hAQ : Aside (∀ (w' : World) (e10 e35 e37 e38 e40 e41 e42 e43 e204 e205 e206 e207 e208 e209 e210 e211 e212 e213 e214 e215 e216 e217 e218 e219 e220 e221 e222 e223 e224 e225 e226 e227 e228 e229 e230 e231 e232 e233 e234 e235 e236 e237 e238 e239 e240 e241 e242 e243 e244 e245 e246 e247 e248 e249 e250 e251 e252 e253 e254 e255 e256 e257 e258 e259 e260 e261 e262 e263 e264 e265 e266 e267 e268 e269 e270 e271 e272 e273 e274 e275 e276 e277 e278 e279 e280 e281 e282 e283 e284 e285 e286 e287 e288 e289 e290 e291 e292 e293 e294 e295 e296 e297 e298 e299 e300 e301 e302 e303 e304 e305 e306 e307 e308 e309 e310 e311 e312 e313 e314 e315 e316 e317 e318 e319 e320 : Value), Below wE.heap.size wE w' → Q .normal ⟨#[c0, .slice a1 len cap1, c2, c3, c4, c5, c6, c7, c8, c9, e10, .pointer (some ⟨tb, 0, none⟩), c12, c13, c14, c15, c16, c17, c18, cv, c20, c21, c22, c23, c24, c25, .int .i64 f, .int .i64 t, .int .i64 sp, c29, .pointer (some ⟨ub, 0, none⟩), ((.int .i64 ((k0 + ((cutsOf f t (bdK V s e len k)).length - 1) : Nat) : Int)) : Value), .int .i64 (i : Nat), .int .i64 k, c34, e35, c36, e37, e38, c39, e40, e41, e42, e43, c44, c45, c46, c47, c48, c49, c50, c51, c52, c53, c54, c55, c56, c57, c58, c59, c60, c61, c62, c63, c64, c65, c66, c67, c68, c69, c70, c71, c72, c73, c74, c75, c76, c77, c78, c79, c80, c81, c82, c83, c84, c85, c86, c87, c88, c89, c90, c91, c92, c93, c94, c95, c96, c97, c98, c99, c100, c101, c102, c103, c104, c105, c106, c107, c108, c109, c110, c111, c112, c113, c114, c115, c116, c117, c118, c119, c120, c121, c122, c123, c124, c125, c126, c127, c128, c129, c130, c131, c132, c133, c134, c135, c136, c137, c138, c139, c140, c141, c142, c143, c144, c145, c146, c147, c148, c149, c150, c151, c152, c153, c154, c155, c156, c157, c158, c159, c160, c161, c162, c163, c164, c165, c166, c167, c168, c169, c170, c171, c172, c173, c174, c175, c176, c177, c178, c179, c180, c181, c182, c183, c184, c185, c186, c187, c188, c189, c190, c191, c192, c193, c194, c195, c196, c197, c198, c199, c200, c201, c202, c203, e204, e205, e206, e207, e208, e209, e210, e211, e212, e213, e214, e215, e216, e217, e218, e219, e220, e221, e222, e223, e224, e225, e226, e227, e228, e229, e230, e231, e232, e233, e234, e235, e236, e237, e238, e239, e240, e241, e242, e243, e244, e245, e246, e247, e248, e249, e250, e251, e252, e253, e254, e255, e256, e257, e258, e259, e260, e261, e262, e263, e264, e265, e266, e267, e268, e269, e270, e271, e272, e273, e274, e275, e276, e277, e278, e279, e280, e281, e282, e283, e284, e285, e286, e287, e288, e289, e290, e291, e292, e293, e294, e295, e296, e297, e298, e299, e300, e301, e302, e303, e304, e305, e306, e307, e308, e309, e310, e311, e312, e313, e314, e315, e316, e317, e318, e319, e320, c321, c322, c323, c324, c325, c326], []⟩ w') := hQ
  have hAP : Aside (LE w tb ub kd ks ds vs kv cv pv PL wE ∧ ∀ m, m + 1 < (cutsOf f t (bdK V s e len k)).length → PL[k0 + m]? = some (i, cntOf dd sp ((cutsOf f t (bdK V s e len k)).getD m 0) ((cutsOf f t (bdK V s e len k)).getD (m + 1) 0), 100000 + (cutsOf f t (bdK V s e len k)).getD m 0)) := ⟨hLE, hPL⟩
  have hA : Aside (ArgC w w.heap.size a1 len M s e) := hArg
  have hTl : (tmL s e (flK V len k)).length ≤ 700 := by
    rw [tmL_length]
    have := flK_le V len k
    omega
  have hAT : Aside (∀ c ∈ tmL s e (flK V len k), -32768 ≤ c ∧ c ≤ 32767) := by
    show ∀ c ∈ tmL s e (flK V len k), -32768 ≤ c ∧ c ≤ 32767
    intro c hc
    unfold tmL at hc
    obtain ⟨j, hj, hx⟩ := List.mem_flatMap.1 hc
    obtain ⟨_, _, _, _, _, _, _, _, h1, h2⟩ := hArg j (flK_lt hj)
    simp at hx
    rcases hx with rfl | rfl
    · exact h1
    · exact h2
  have hAw : Aside (Below w.heap.size w wE) := hLE.below
  have hAb : Aside (Below wE.heap.size wE w0) := hb0
  have hAV : Aside (∀ j, V j = M j % 3) := hV
  obtain ⟨i3, hi3, hz30, hz31, hz32⟩ := info_parts Ybaz.info3
  have H3 : Aside (Ybaz.prog.info? 3 = some i3 ∧ i3.zero = some (.int .i64 0) ∧ i3.size = 1 ∧ i3.bytes = 8) := ⟨hi3, hz30, hz31, hz32⟩
  clear hQ hLE hPL hArg hb0 hV hi3 hz30 hz31 hz32
  conv => arg 2; whnf
  refine wp_seq_k fun Ka hKa => ?_
  have hKa' : Aside (∀ (a : Act) (w : World), _ → Ka a w) := hKa
  clear hKa
  go_wp2
  refine hKa'.out _ _ ?_
  clear hKa'
  refine wp_seq_k fun Kb hKb => ?_
  have hKb' : Aside (∀ (a : Act) (w : World), _ → Kb a w) := hKb
  clear hKb
  by_cases hk : k = -1
  · subst hk
    go_wp2
    refine hKb'.out _ _ ?_
    have hAW : Aside (Below wE.heap.size wE w0 ∧ w0.ownsRow wE.heap.size 3 1 (.slice none 0 0) (tmL s e (flK V len (-1))).length ((tmL s e (flK V len (-1))).map (Value.int .i64))) := ⟨hAb.out, by rw [flK_neg]; exact ⟨rfl, .inl ⟨rfl, rfl⟩⟩⟩
    obtain ⟨bv, hbv⟩ : ∃ bv, Value.slice none 0 0 = bv := ⟨_, rfl⟩
    rw [hbv] at hAW
    rw [hbv]
    obtain ⟨W, hW⟩ : ∃ W, w0 = W := ⟨_, rfl⟩
    rw [hW] at hAW
    rw [hW]
    refine law_G tb ub kd i k0 ks ds (tmL s e (flK V len (-1))) vs kv cv pv bv PL f t sp dd w wE W hAP.out.1 hAW.out.1 hAW.out.2 hTl hAT.out hf ht hft hi hdl hdd hdn hsp0 hsp1 hAP.out.2 hPb hk0 _ _ _ _ _ _ _ _ _ _ _ _ _ _ _ _ _ _ _ _ _ _ _ _ _ _ _ _ _ _ _ _ _ _ _ _ _ _ _ _ _ _ _ _ _ _ _ _ _ _ _ _ _ _ _ _ _ _ _ _ _ _ _ _ _ _ _ _ _ _ _ _ _ _ _ _ _ _ _ _ _ _ _ _ _ _ _ _ _ _ _ _ _ _ _ _ _ _ _ _ _ _ _ _ _ _ _ _ _ _ _ _ _ _ _ _ _ _ _ _ _ _ _ _ _ _ _ _ _ _ _ _ _ _ _ _ _ _ _ _ _ _ _ _ _ _ _ _ _ _ _ _ _ _ _ _ _ _ _ _ _ _ _ _ _ _ _ _ _ _ _ _ _ _ _ _ _ _ _ _ _ _ _ _ _ _ _ _ _ _ _ _ _ _ _ _ _ _ _ _ _ _ _ _ _ _ _ _ _ _ _ _ _ _ _ _ _ _ _ _ _ _ _ _ _ _ _ _ _ _ _ _ _ _ _ _ _ _ _ _ _ _ _ _ _ _ _ _ _ _ _ _ _ _ _ _ _ _ _ _ _ _ _ _ _ _ _ _ _ _ _ _ _ _ _ _ _ _ _ _ _ _ _ _ _ _ _ _ _ _ _ _ _ _ _ _ _ _ _ _ _ _ _ _ _ _ _ _ _ _ _ _ _ _ _ _ _ _ _ ?_
    intro w' e10 e35 e38 e40 e41 e42 e43 e228 e229 e230 e231 e232 e233 e234 e235 e236 e237 e238 e239 e240 e241 e242 e243 e244 e245 e246 e247 e248 e249 e250 e251 e252 e253 e254 e255 e256 e257 e258 e259 e260 e261 e262 e263 e264 e265 e266 e267 e268 e269 e270 e271 e272 e273 e274 e275 e276 e277 e278 e279 e280 e281 e282 e283 e284 e285 e286 e287 e288 e289 e290 e291 e292 e293 e294 e295 e296 e297 e298 e299 e300 e301 e302 e303 e304 e305 e306 e307 e308 e309 e310 e311 e312 e313 e314 e315 e316 e317 e318 e319 e320 hbw
    exact hAQ.out w' _ _ _ _ _ _ _ _ _ _ _ _ _ _ _ _ _ _ _ _ _ _ _ _ _ _ _ _ _ _ _ _ _ _ _ _ _ _ _ _ _ _ _ _ _ _ _ _ _ _ _ _ _ _ _ _ _ _ _ _ _ _ _ _ _ _ _ _ _ _ _ _ _ _ _ _ _ _ _ _ _ _ _ _ _ _ _ _ _ _ _ _ _ _ _ _ _ _ _ _ _ _ _ _ _ _ _ _ _ _ _ _ _ _ _ _ _ _ _ _ _ _ _ _ _ hbw
  · have hk0' : (0 : Int) ≤ k := by omega
    go_wp2
    go_loopg [208, 35] (len + 1) (fun q v208 v35 wx => ∃ (c : Nat) (bv : Value), v208 = .int .i64 c ∧ v35 = bv ∧ c ≤ len ∧ len - c < q ∧ Below wE.heap.size wE wx ∧ wx.ownsRow wE.heap.size 3 1 bv (tmL s e (flK V c k)).length ((tmL s e (flK V c k)).map (Value.int .i64)))
    case atStart => exact ⟨0, _, rfl, rfl, Nat.zero_le _, by omega, hAb.out, ⟨rfl, .inl ⟨rfl, rfl⟩⟩⟩
    case round =>
      obtain ⟨c, bv, rfl, hv35, hcL, hq, hbel, hrow⟩ := hrel
      obtain rfl := hv35.symm
      clear hv35
      by_cases hlt : c < len
      · obtain ⟨b, off, rfl, hbB, p0, p1, p2, m255, hsb, heb⟩ := hA.out c hlt
        have hbw : Below w.heap.size w wr := hAw.out.trans (hbel.mono hAw.out.size)
        have o0 := (hbw.cell (p := ⟨b, off + c * 3, none⟩) hbB).trans p0
        have o1 := (hbw.cell (p := ⟨b, off + c * 3 + 1, none⟩) hbB).trans p1
        have o2 := (hbw.cell (p := ⟨b, off + c * 3 + 2, none⟩) hbB).trans p2
        have hlt' : (c : Int) < (len : Int) := by omega
        have hVc := hAV.out c
        obtain ⟨m, hm⟩ : ∃ m, M c = m := ⟨_, rfl⟩
        obtain ⟨si, hsi⟩ : ∃ si, s c = si := ⟨_, rfl⟩
        obtain ⟨ei, hei⟩ : ∃ ei, e c = ei := ⟨_, rfl⟩
        obtain ⟨v, hv⟩ : ∃ v, m % 3 = v := ⟨_, rfl⟩
        rw [hm] at o0 m255 hVc
        rw [hv] at hVc
        rw [hsi] at o1 hsb
        rw [hei] at o2 heb
        have htm : (m : Int).tmod 3 = (v : Int) := by rw [← hv]; exact (Int.ofNat_tmod m 3).symm
        have hwm : IntKind.i64.wrap (m : Int) = (m : Int) := (IntWalk.i64_left _).trans (by unfold wrap64; omega)
        have hws : IntKind.i64.wrap si = si := (IntWalk.i64_left _).trans (by unfold wrap64; omega)
        have hwe : IntKind.i64.wrap ei = ei := (IntWalk.i64_left _).trans (by unfold wrap64; omega)
        have hzr := hbel.size
        have hbr : b < wr.heap.size := by have := hbw.size; omega
        have hAr : Aside (Below wE.heap.size wE wr ∧ wr.ownsRow wE.heap.size 3 1 bv (tmL s e (flK V c k)).length ((tmL s e (flK V c k)).map (Value.int .i64))) := ⟨hbel, hrow⟩
        have hfl : (tmL s e (flK V c k)).length ≤ 700 := by
          rw [tmL_length]
          have := flK_le V c k
          omega
        by_cases hvk : (v : Int) = k
        · have hnx : tmL s e (flK V (c + 1) k) = tmL s e (flK V c k) ++ [si, ei] := by rw [flK_yes V c k (by rw [hVc]; exact hvk), tmL_snoc, hsi, hei]
          have hAnx : Aside (tmL s e (flK V (c + 1) k) = tmL s e (flK V c k) ++ [si, ei]) := hnx
          generalize tmL s e (flK V c k) = CL at *
          have hbeq : ((v : Int) == k) = true := by rw [hvk]; exact beq_self_eq_true k
          have hrowA := row_below hrow (w' := wr.alloc (.cells #[.int .u8 (m : Nat), .int .i16 si, .int .i16 ei] 35)) ((Below.refl _ _).alloc (Nat.le_refl _) _)
          clear hbel hbw p0 p1 p2 hm hsi hei hv hVc hnx hrow
          go_wp2_with (at_builtin; refine Veil.off ?_)
          unfold Veil
          refine wpList_append_lies _ rfl (.tmp 218) (.tmp 225) 44 rfl wE.heap.size 3 i3 (.int .i64 0) 1 8 Ybaz.underlying44 H3.out.1 H3.out.2.1 H3.out.2.2.1 H3.out.2.2.2 rfl (by decide) bv CL.length _ rfl (hrowA.alloc _) ⟨wr.heap.size + 1, 0, none⟩ 2 2 [.int .i64 si, .int .i64 ei] rfl rfl ?a1 ?a2 (by decide) ?a3 ?a4 ?a5 _ rfl ?_
          case a1 => exact World.news_of_block (cs := #[.int .i64 si, .int .i64 ei]) (by rw [alloc_at, if_pos (by simp)])
          case a2 => intro u hu; simp at hu; rcases hu with rfl | rfl <;> rfl
          case a3 => unfold maxLen; omega
          case a4 => omega
          case a5 => simp; omega
          intro g cap w5 hown5 hgrow5 _ _
          have hb5 : Below wE.heap.size wE w5 := ((hAr.out.1.alloc hAr.out.1.size _).alloc (by simp; omega) _).grown hgrow5 (by simp; omega) (fun j e => (own_block hAr.out.2 e).1)
          have hr5 : w5.ownsRow wE.heap.size 3 1 (.slice (some ⟨g, 0, none⟩) (CL.length + 2) cap) (CL ++ [si, ei]).length ((CL ++ [si, ei]).map (Value.int .i64)) := by
            rw [List.map_append, List.length_append]
            exact hown5
          have hA5 : Aside (Below wE.heap.size wE w5 ∧ w5.ownsRow wE.heap.size 3 1 (.slice (some ⟨g, 0, none⟩) (CL.length + 2) cap) (CL ++ [si, ei]).length ((CL ++ [si, ei]).map (Value.int .i64))) := ⟨hb5, hr5⟩
          clear hb5 hr5 hown5 hgrow5 hrowA
          go_wp2
          go_roundg (len - c)
          case measure => omega
          case rel => exact ⟨c + 1, _, by go_num, rfl, by omega, by omega, hA5.out.1, by rw [hAnx.out]; exact hA5.out.2⟩
        · have hnx : tmL s e (flK V (c + 1) k) = tmL s e (flK V c k) := by rw [flK_no V c k (by rw [hVc]; exact hvk)]
          have hAnx : Aside (tmL s e (flK V (c + 1) k) = tmL s e (flK V c k)) := hnx
          have hbeq : ((v : Int) == k) = false := beq_eq_false_iff_ne.2 hvk
          have hbn : Below wE.heap.size wE (wr.alloc (.cells #[.int .u8 (m : Nat), .int .i16 si, .int .i16 ei] 35)) := hbel.alloc hbel.size _
          have hrn := row_below hrow (w' := wr.alloc (.cells #[.int .u8 (m : Nat), .int .i16 si, .int .i16 ei] 35)) ((Below.refl _ _).alloc (Nat.le_refl _) _)
          have hAn : Aside (Below wE.heap.size wE (wr.alloc (.cells #[.int .u8 (m : Nat), .int .i16 si, .int .i16 ei] 35)) ∧ (wr.alloc (.cells #[.int .u8 (m : Nat), .int .i16 si, .int .i16 ei] 35)).ownsRow wE.heap.size 3 1 bv (tmL s e (flK V c k)).length ((tmL s e (flK V c k)).map (Value.int .i64))) := ⟨hbn, hrn⟩
          clear hbel hbw p0 p1 p2 hm hsi hei hv hVc hnx hrow hbn hrn
          go_wp2
          go_roundg (len - c)
          case measure => omega
          case rel => exact ⟨c + 1, _, by go_num, rfl, by omega, by omega, hAn.out.1, by rw [hAnx.out]; exact hAn.out.2⟩
      · obtain rfl : c = len := by omega
        have hAW : Aside (Below wE.heap.size wE wr ∧ wr.ownsRow wE.heap.size 3 1 bv (tmL s e (flK V c k)).length ((tmL s e (flK V c k)).map (Value.int .i64))) := ⟨hbel, hrow⟩
        clear hbel hrow
        go_wp2
        refine hKb'.out _ _ ?_
        obtain ⟨W, hW⟩ : ∃ W, wr = W := ⟨_, rfl⟩
        rw [hW] at hAW
        rw [hW]
        refine law_G tb ub kd i k0 ks ds (tmL s e (flK V c k)) vs kv cv pv bv PL f t sp dd w wE W hAP.out.1 hAW.out.1 hAW.out.2 hTl hAT.out hf ht hft hi hdl hdd hdn hsp0 hsp1 hAP.out.2 hPb hk0 _ _ _ _ _ _ _ _ _ _ _ _ _ _ _ _ _ _ _ _ _ _ _ _ _ _ _ _ _ _ _ _ _ _ _ _ _ _ _ _ _ _ _ _ _ _ _ _ _ _ _ _ _ _ _ _ _ _ _ _ _ _ _ _ _ _ _ _ _ _ _ _ _ _ _ _ _ _ _ _ _ _ _ _ _ _ _ _ _ _ _ _ _ _ _ _ _ _ _ _ _ _ _ _ _ _ _ _ _ _ _ _ _ _ _ _ _ _ _ _ _ _ _ _ _ _ _ _ _ _ _ _ _ _ _ _ _ _ _ _ _ _ _ _ _ _ _ _ _ _ _ _ _ _ _ _ _ _ _ _ _ _ _ _ _ _ _ _ _ _ _ _ _ _ _ _ _ _ _ _ _ _ _ _ _ _ _ _ _ _ _ _ _ _ _ _ _ _ _ _ _ _ _ _ _ _ _ _ _ _ _ _ _ _ _ _ _ _ _ _ _ _ _ _ _ _ _ _ _ _ _ _ _ _ _ _ _ _ _ _ _ _ _ _ _ _ _ _ _ _ _ _ _ _ _ _ _ _ _ _ _ _ _ _ _ _ _ _ _ _ _ _ _ _ _ _ _ _ _ _ _ _ _ _ _ _ _ _ _ _ _ _ _ _ _ _ _ _ _ _ _ _ _ _ _ _ _ _ _ _ _ _ _ _ _ _ _ _ _ ?_
        intro w' e10 e35 e38 e40 e41 e42 e43 e228 e229 e230 e231 e232 e233 e234 e235 e236 e237 e238 e239 e240 e241 e242 e243 e244 e245 e246 e247 e248 e249 e250 e251 e252 e253 e254 e255 e256 e257 e258 e259 e260 e261 e262 e263 e264 e265 e266 e267 e268 e269 e270 e271 e272 e273 e274 e275 e276 e277 e278 e279 e280 e281 e282 e283 e284 e285 e286 e287 e288 e289 e290 e291 e292 e293 e294 e295 e296 e297 e298 e299 e300 e301 e302 e303 e304 e305 e306 e307 e308 e309 e310 e311 e312 e313 e314 e315 e316 e317 e318 e319 e320 hbw
        exact hAQ.out w' _ _ _ _ _ _ _ _ _ _ _ _ _ _ _ _ _ _ _ _ _ _ _ _ _ _ _ _ _ _ _ _ _ _ _ _ _ _ _ _ _ _ _ _ _ _ _ _ _ _ _ _ _ _ _ _ _ _ _ _ _ _ _ _ _ _ _ _ _ _ _ _ _ _ _ _ _ _ _ _ _ _ _ _ _ _ _ _ _ _ _ _ _ _ _ _ _ _ _ _ _ _ _ _ _ _ _ _ _ _ _ _ _ _ _ _ _ _ _ _ _ _ _ _ _ hbw

end Go.Proofs.YbulkcelaGreatDoor
