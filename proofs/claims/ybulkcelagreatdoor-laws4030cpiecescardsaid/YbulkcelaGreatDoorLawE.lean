/-
  LawS4030CPieces: the check (seat b4030aZD).
-/
import Derived.Test.YbulkcelaGreatDoorLawF
namespace Go.Proofs.YbulkcelaGreatDoor
open Go.RowKit Go.MapKept Go.Lib Go.Shelf Go.Maps Go.Sort

set_option linter.unusedSimpArgs false in
set_option maxRecDepth 100000 in
set_option maxHeartbeats 2000000 in
theorem law_r49 (r m : Nat) (w : World) (hm : m < 3) (hM : MapL w r [(aS, .string (valS m))]) (df : List Deferred) (Q : Exit → Act → World → Prop) (c0 c1 c2 c3 c4 c5 c6 c7 c8 c9 c10 c11 c12 c13 c14 c15 c16 c17 c18 c19 c20 c21 c22 c23 c24 c25 c26 c27 c28 c29 c30 c31 c32 c35 c36 c37 c38 c39 c40 c41 c42 c43 c44 c45 c46 c47 c48 c49 c50 c51 c52 c53 c54 c55 c56 c57 c58 c59 c60 c61 c62 c63 c64 c65 c66 c67 c68 c69 c70 c71 c72 c73 c74 c75 c76 c77 c78 c79 c80 c81 c82 c83 c84 c85 c86 c87 c88 c89 c90 c91 c92 c93 c94 c95 c96 c97 c98 c99 c100 c101 c102 c103 c104 c105 c106 c107 c108 c109 c110 c111 c112 c113 c114 c115 c116 c117 c118 c119 c120 c121 c122 c123 c124 c125 c126 c127 c128 c129 c130 c131 c132 c133 c134 c135 c136 c137 c138 c139 c140 c141 c142 c143 c144 c145 c146 c147 c148 c149 c150 c151 c152 c153 c154 c155 c156 c157 c158 c159 c160 c161 c162 c163 c164 c165 c166 c167 c168 c169 c170 c171 c172 c173 c174 c175 c176 c177 c178 c179 c180 c181 c182 c183 c184 c185 c186 c187 c188 c189 c190 c191 c192 c193 c194 c195 c196 c197 c198 c199 c200 c201 c202 c203 : Value) (rest : List Value) (hQ : ∀ (w2 : World) (e194 e195 e196 e197 e198 e199 e200 e201 e202 : Value), Lays w w2 → Q .normal ⟨(c0 :: c1 :: c2 :: c3 :: c4 :: c5 :: c6 :: c7 :: c8 :: c9 :: c10 :: c11 :: c12 :: c13 :: c14 :: c15 :: c16 :: c17 :: c18 :: c19 :: c20 :: c21 :: c22 :: c23 :: c24 :: c25 :: c26 :: c27 :: c28 :: c29 :: c30 :: c31 :: c32 :: .int .i64 (m : Nat) :: .map (some r) :: c35 :: c36 :: c37 :: c38 :: c39 :: c40 :: c41 :: c42 :: c43 :: c44 :: c45 :: c46 :: c47 :: c48 :: c49 :: c50 :: c51 :: c52 :: c53 :: c54 :: c55 :: c56 :: c57 :: c58 :: c59 :: c60 :: c61 :: c62 :: c63 :: c64 :: c65 :: c66 :: c67 :: c68 :: c69 :: c70 :: c71 :: c72 :: c73 :: c74 :: c75 :: c76 :: c77 :: c78 :: c79 :: c80 :: c81 :: c82 :: c83 :: c84 :: c85 :: c86 :: c87 :: c88 :: c89 :: c90 :: c91 :: c92 :: c93 :: c94 :: c95 :: c96 :: c97 :: c98 :: c99 :: c100 :: c101 :: c102 :: c103 :: c104 :: c105 :: c106 :: c107 :: c108 :: c109 :: c110 :: c111 :: c112 :: c113 :: c114 :: c115 :: c116 :: c117 :: c118 :: c119 :: c120 :: c121 :: c122 :: c123 :: c124 :: c125 :: c126 :: c127 :: c128 :: c129 :: c130 :: c131 :: c132 :: c133 :: c134 :: c135 :: c136 :: c137 :: c138 :: c139 :: c140 :: c141 :: c142 :: c143 :: c144 :: c145 :: c146 :: c147 :: c148 :: c149 :: c150 :: c151 :: c152 :: c153 :: c154 :: c155 :: c156 :: c157 :: c158 :: c159 :: c160 :: c161 :: c162 :: c163 :: c164 :: c165 :: c166 :: c167 :: c168 :: c169 :: c170 :: c171 :: c172 :: c173 :: c174 :: c175 :: c176 :: c177 :: c178 :: c179 :: c180 :: c181 :: c182 :: c183 :: c184 :: c185 :: c186 :: c187 :: c188 :: c189 :: c190 :: c191 :: c192 :: c193 :: e194 :: e195 :: e196 :: e197 :: e198 :: e199 :: e200 :: e201 :: e202 :: .bool false :: rest).toArray, df⟩ w2) :
    lawR49.wp Ybaz.prog Q ⟨(c0 :: c1 :: c2 :: c3 :: c4 :: c5 :: c6 :: c7 :: c8 :: c9 :: c10 :: c11 :: c12 :: c13 :: c14 :: c15 :: c16 :: c17 :: c18 :: c19 :: c20 :: c21 :: c22 :: c23 :: c24 :: c25 :: c26 :: c27 :: c28 :: c29 :: c30 :: c31 :: c32 :: .int .i64 (m : Nat) :: .map (some r) :: c35 :: c36 :: c37 :: c38 :: c39 :: c40 :: c41 :: c42 :: c43 :: c44 :: c45 :: c46 :: c47 :: c48 :: c49 :: c50 :: c51 :: c52 :: c53 :: c54 :: c55 :: c56 :: c57 :: c58 :: c59 :: c60 :: c61 :: c62 :: c63 :: c64 :: c65 :: c66 :: c67 :: c68 :: c69 :: c70 :: c71 :: c72 :: c73 :: c74 :: c75 :: c76 :: c77 :: c78 :: c79 :: c80 :: c81 :: c82 :: c83 :: c84 :: c85 :: c86 :: c87 :: c88 :: c89 :: c90 :: c91 :: c92 :: c93 :: c94 :: c95 :: c96 :: c97 :: c98 :: c99 :: c100 :: c101 :: c102 :: c103 :: c104 :: c105 :: c106 :: c107 :: c108 :: c109 :: c110 :: c111 :: c112 :: c113 :: c114 :: c115 :: c116 :: c117 :: c118 :: c119 :: c120 :: c121 :: c122 :: c123 :: c124 :: c125 :: c126 :: c127 :: c128 :: c129 :: c130 :: c131 :: c132 :: c133 :: c134 :: c135 :: c136 :: c137 :: c138 :: c139 :: c140 :: c141 :: c142 :: c143 :: c144 :: c145 :: c146 :: c147 :: c148 :: c149 :: c150 :: c151 :: c152 :: c153 :: c154 :: c155 :: c156 :: c157 :: c158 :: c159 :: c160 :: c161 :: c162 :: c163 :: c164 :: c165 :: c166 :: c167 :: c168 :: c169 :: c170 :: c171 :: c172 :: c173 :: c174 :: c175 :: c176 :: c177 :: c178 :: c179 :: c180 :: c181 :: c182 :: c183 :: c184 :: c185 :: c186 :: c187 :: c188 :: c189 :: c190 :: c191 :: c192 :: c193 :: c194 :: c195 :: c196 :: c197 :: c198 :: c199 :: c200 :: c201 :: c202 :: c203 :: rest).toArray, df⟩ w := by
  have hAQ : Aside (∀ (w2 : World) (e194 e195 e196 e197 e198 e199 e200 e201 e202 : Value), Lays w w2 → Q .normal ⟨(c0 :: c1 :: c2 :: c3 :: c4 :: c5 :: c6 :: c7 :: c8 :: c9 :: c10 :: c11 :: c12 :: c13 :: c14 :: c15 :: c16 :: c17 :: c18 :: c19 :: c20 :: c21 :: c22 :: c23 :: c24 :: c25 :: c26 :: c27 :: c28 :: c29 :: c30 :: c31 :: c32 :: .int .i64 (m : Nat) :: .map (some r) :: c35 :: c36 :: c37 :: c38 :: c39 :: c40 :: c41 :: c42 :: c43 :: c44 :: c45 :: c46 :: c47 :: c48 :: c49 :: c50 :: c51 :: c52 :: c53 :: c54 :: c55 :: c56 :: c57 :: c58 :: c59 :: c60 :: c61 :: c62 :: c63 :: c64 :: c65 :: c66 :: c67 :: c68 :: c69 :: c70 :: c71 :: c72 :: c73 :: c74 :: c75 :: c76 :: c77 :: c78 :: c79 :: c80 :: c81 :: c82 :: c83 :: c84 :: c85 :: c86 :: c87 :: c88 :: c89 :: c90 :: c91 :: c92 :: c93 :: c94 :: c95 :: c96 :: c97 :: c98 :: c99 :: c100 :: c101 :: c102 :: c103 :: c104 :: c105 :: c106 :: c107 :: c108 :: c109 :: c110 :: c111 :: c112 :: c113 :: c114 :: c115 :: c116 :: c117 :: c118 :: c119 :: c120 :: c121 :: c122 :: c123 :: c124 :: c125 :: c126 :: c127 :: c128 :: c129 :: c130 :: c131 :: c132 :: c133 :: c134 :: c135 :: c136 :: c137 :: c138 :: c139 :: c140 :: c141 :: c142 :: c143 :: c144 :: c145 :: c146 :: c147 :: c148 :: c149 :: c150 :: c151 :: c152 :: c153 :: c154 :: c155 :: c156 :: c157 :: c158 :: c159 :: c160 :: c161 :: c162 :: c163 :: c164 :: c165 :: c166 :: c167 :: c168 :: c169 :: c170 :: c171 :: c172 :: c173 :: c174 :: c175 :: c176 :: c177 :: c178 :: c179 :: c180 :: c181 :: c182 :: c183 :: c184 :: c185 :: c186 :: c187 :: c188 :: c189 :: c190 :: c191 :: c192 :: c193 :: e194 :: e195 :: e196 :: e197 :: e198 :: e199 :: e200 :: e201 :: e202 :: .bool false :: rest).toArray, df⟩ w2) := hQ
  have mixed : Ybaz.prog.follows .mixedOrders = true := by kernel_rfl
  have h5 : ∀ W, Calls Ybaz.prog 5 #[.int .i64 (m : Nat)] W fun x w' => x = .returned (.string (valS m)) ∧ Lays W w' := fun W => (val5 m hm W).mono fun x w' h => ⟨h.1, by rw [h.2]; exact Lays.refl _⟩
  have hMg : ∀ q os, MapL (grow (w.drewN q) os) r [(aS, .string (valS m))] := fun q os => hM.block ((show Lays w (grow (w.drewN q) os) from ⟨q, os, rfl⟩).below.block r hM.lt)
  have hln : ∀ q os ty, (Builtin.len_ #[49] ty #[.map (some r)]).run Ybaz.prog (grow (w.drewN q) os) = .ok (.int .i64 1) (grow (w.drewN q) os) := fun q os ty => (hMg q os).len (t := 49) (e := 9) Ybaz.underlying49
  have hlk : ∀ q os, (Instr.lookup 49 (.map (some r)) (.string ⟨#[97]⟩) false).run Ybaz.prog (grow (w.drewN q) os) = .ok (.string (valS m)) (grow (w.drewN q) os) := fun q os => ((hMg q os).look_some (s := aS) (v := .string (valS m)) (t := 49) (e := 9) Ybaz.underlying49 (by simp)).1
  clear hQ hM hMg
  conv => arg 2; whnf
  go_quiet_grown (first | (go_at_call 5; exact Calls.grown_of (h5 _)))
  exact hAQ.out _ _ _ _ _ _ _ _ _ _ ⟨_, _, rfl⟩

theorem cnt_shift (dd sp a b : Int) : cntOf dd sp (100000 + a) (100000 + b) = cntOf dd sp a b := by
  unfold cntOf
  rw [show 100000 + b - (100000 + a) = b - a by omega]

theorem csOf_shift (f t : Int) (V : Nat → Nat) (s e : Nat → Int) (len : Nat) (ks : List Int) (i : Nat) (k : Int) (hk : ks[i]? = some k) : csOf (100000 + f) (100000 + t) V (fun i => 100000 + s i) (fun i => 100000 + e i) len ks i = (cutsOf f t (bdK V s e len k)).map (100000 + ·) := by
  unfold csOf
  rw [show ks.getD i 0 = k by simp [List.getD, hk], bdK_map, cutsOf_map]

set_option linter.unusedSimpArgs false in
set_option maxRecDepth 100000 in
set_option maxHeartbeats 4000000 in
theorem law_E (a1 : Option Addr) (len cap1 tb ub kd : Nat) (M V : Nat → Nat) (s e : Nat → Int) (ks ds : List Int) (vs : Nat → Value) (kv cv pv : Value) (f t sp : Int) (w wE : World) (hV : ∀ j, V j = M j % 3) (hlen : len ≤ 300) (hArg : ArgC w w.heap.size a1 len M s e) (hkr : ∀ k ∈ ks, -1 ≤ k ∧ k ≤ 2) (hK : ks.length ≤ 300) (hdl : ds.length = ks.length) (hds : ∀ z ∈ ds, z.natAbs < 9007199254740992) (hLE : LE w tb ub kd ks ds vs kv cv pv (allP sp ds (csOf (100000 + f) (100000 + t) V (fun i => 100000 + s i) (fun i => 100000 + e i) len ks) ks.length) wE) (hf : -32768 ≤ f ∧ f ≤ 32767) (ht : -32768 ≤ t ∧ t ≤ 98303) (hft : f < t) (hsp0 : 0 < sp) (hsp1 : sp ≤ 1000000)
    (R : Ending → World → Prop) (hR : ∀ w', Below w.heap.size w w' → R (.returned (.bool true)) w') (c0 c2 c3 c4 c5 c6 c7 c8 c9 c10 c12 c13 c14 c15 c16 c17 c20 c21 c22 c23 c24 c25 c29 c31 c32 c33 c34 c35 c36 c37 c38 c39 c40 c41 c42 c43 c44 c45 c46 c47 c48 c49 c50 c51 c52 c53 c54 c55 c56 c57 c58 c59 c60 c61 c62 c63 c64 c65 c66 c67 c68 c69 c70 c71 c72 c73 c74 c75 c76 c77 c78 c79 c80 c81 c82 c83 c84 c85 c86 c87 c88 c89 c90 c91 c92 c93 c94 c95 c96 c97 c98 c99 c100 c101 c102 c103 c104 c105 c106 c107 c108 c109 c110 c111 c112 c113 c114 c115 c116 c117 c118 c119 c120 c121 c122 c123 c124 c125 c126 c127 c128 c129 c130 c131 c132 c133 c134 c135 c136 c137 c138 c139 c140 c141 c142 c143 c144 c145 c146 c147 c148 c149 c150 c151 c152 c153 c154 c155 c156 c157 c158 c159 c160 c161 c162 c163 c164 c165 c166 c167 c168 c169 c170 c171 c172 c173 c174 c175 c176 c177 c178 c179 c180 c181 c182 c183 c184 c185 c186 c187 c188 c189 c190 c191 c192 c193 c194 c195 c196 c197 c198 c199 c200 c201 c202 c203 c204 c205 c206 c207 c208 c209 c210 c211 c212 c213 c214 c215 c216 c217 c218 c219 c220 c221 c222 c223 c224 c225 c226 c227 c228 c229 c230 c231 c232 c233 c234 c235 c236 c237 c238 c239 c240 c241 c242 c243 c244 c245 c246 c247 c248 c249 c250 c251 c252 c253 c254 c255 c256 c257 c258 c259 c260 c261 c262 c263 c264 c265 c266 c267 c268 c269 c270 c271 c272 c273 c274 c275 c276 c277 c278 c279 c280 c281 c282 c283 c284 c285 c286 c287 c288 c289 c290 c291 c292 c293 c294 c295 c296 c297 c298 c299 c300 c301 c302 c303 c304 c305 c306 c307 c308 c309 c310 c311 c312 c313 c314 c315 c316 c317 c318 c319 c320 c321 c322 c323 c324 c325 c326 : Value) :
    lawE.wp Ybaz.prog (bodyPost Ybaz.prog Ybaz.f3 R) ⟨#[c0, .slice a1 len cap1, c2, c3, c4, c5, c6, c7, c8, c9, c10, .pointer (some ⟨tb, 0, none⟩), c12, c13, c14, c15, c16, c17, kv, cv, c20, c21, c22, c23, c24, c25, .int .i64 f, .int .i64 t, .int .i64 sp, c29, .pointer (some ⟨ub, 0, none⟩), c31, c32, c33, c34, c35, c36, c37, c38, c39, c40, c41, c42, c43, c44, c45, c46, c47, c48, c49, c50, c51, c52, c53, c54, c55, c56, c57, c58, c59, c60, c61, c62, c63, c64, c65, c66, c67, c68, c69, c70, c71, c72, c73, c74, c75, c76, c77, c78, c79, c80, c81, c82, c83, c84, c85, c86, c87, c88, c89, c90, c91, c92, c93, c94, c95, c96, c97, c98, c99, c100, c101, c102, c103, c104, c105, c106, c107, c108, c109, c110, c111, c112, c113, c114, c115, c116, c117, c118, c119, c120, c121, c122, c123, c124, c125, c126, c127, c128, c129, c130, c131, c132, c133, c134, c135, c136, c137, c138, c139, c140, c141, c142, c143, c144, c145, c146, c147, c148, c149, c150, c151, c152, c153, c154, c155, c156, c157, c158, c159, c160, c161, c162, c163, c164, c165, c166, c167, c168, c169, c170, c171, c172, c173, c174, c175, c176, c177, c178, c179, c180, c181, c182, c183, c184, c185, c186, c187, c188, c189, c190, c191, c192, c193, c194, c195, c196, c197, c198, c199, c200, c201, c202, c203, c204, c205, c206, c207, c208, c209, c210, c211, c212, c213, c214, c215, c216, c217, c218, c219, c220, c221, c222, c223, c224, c225, c226, c227, c228, c229, c230, c231, c232, c233, c234, c235, c236, c237, c238, c239, c240, c241, c242, c243, c244, c245, c246, c247, c248, c249, c250, c251, c252, c253, c254, c255, c256, c257, c258, c259, c260, c261, c262, c263, c264, c265, c266, c267, c268, c269, c270, c271, c272, c273, c274, c275, c276, c277, c278, c279, c280, c281, c282, c283, c284, c285, c286, c287, c288, c289, c290, c291, c292, c293, c294, c295, c296, c297, c298, c299, c300, c301, c302, c303, c304, c305, c306, c307, c308, c309, c310, c311, c312, c313, c314, c315, c316, c317, c318, c319, c320, c321, c322, c323, c324, c325, c326], []⟩ wE := by
  have hAR : Aside (∀ w', Below w.heap.size w w' → R (.returned (.bool true)) w') := hR
  have hA : Aside (ArgC w w.heap.size a1 len M s e ∧ (∀ k ∈ ks, -1 ≤ k ∧ k ≤ 2) ∧ (∀ z ∈ ds, z.natAbs < 9007199254740992) ∧ LE w tb ub kd ks ds vs kv cv pv (allP sp ds (csOf (100000 + f) (100000 + t) V (fun i => 100000 + s i) (fun i => 100000 + e i) len ks) ks.length) wE ∧ ∀ j, V j = M j % 3) := ⟨hArg, hkr, hds, hLE, hV⟩
  obtain ⟨kp, kc, rfl⟩ := own_form hLE.kk
  have u0 : wE.cell? ⟨ub, 0, none⟩ = some (.slice (some ⟨kd, 0, none⟩) ks.length ks.length) := Joins.cell_of_block hLE.sup 0
  have hcl : ∀ j, (csOf (100000 + f) (100000 + t) V (fun i => 100000 + s i) (fun i => 100000 + e i) len ks j).length ≤ 602 := fun j => by
    have h1 := (cutsOf_length (100000 + f) (100000 + t) (bdK V (fun i => 100000 + s i) (fun i => 100000 + e i) len (ks.getD j 0))).2
    have h2 := bdK_le V (fun i => 100000 + s i) (fun i => 100000 + e i) len (ks.getD j 0)
    unfold csOf
    omega
  have hall : ∀ j, j ≤ 300 → (allP sp ds (csOf (100000 + f) (100000 + t) V (fun i => 100000 + s i) (fun i => 100000 + e i) len ks) j).length ≤ 1000000 := fun j hj => by
    have h := allP_length sp ds _ 602 hcl j
    have : j * 602 ≤ 300 * 602 := Nat.mul_le_mul_right _ hj
    omega
  have hAll : Aside (∀ j, j ≤ 300 → (allP sp ds (csOf (100000 + f) (100000 + t) V (fun i => 100000 + s i) (fun i => 100000 + e i) len ks) j).length ≤ 1000000) := hall
  clear hR hArg hkr hds hLE hV hcl hall
  conv => arg 2; whnf
  go_wp2
  rename_i K1 hK1
  have hK1' : Aside (∀ (a : Act) (w : World), _ → K1 a w) := hK1
  clear hK1
  go_loopg [179, 31] (ks.length + 1) (fun q v179 v31 wx => ∃ i : Nat, v179 = .int .i64 i ∧ v31 = .int .i64 (((allP sp ds (csOf (100000 + f) (100000 + t) V (fun i => 100000 + s i) (fun i => 100000 + e i) len ks) i).length : Nat) : Int) ∧ i ≤ ks.length ∧ ks.length - i < q ∧ Below wE.heap.size wE wx)
  case atStart => exact ⟨0, rfl, rfl, Nat.zero_le _, by omega, Below.refl _ _⟩
  case round =>
    obtain ⟨i, rfl, rfl, hiK, hq, hbel⟩ := hrel
    by_cases hlt : i < ks.length
    · obtain ⟨hArg, hkr', hds, hLE0, hV⟩ := hA.out
      have hLE := hLE0.later hbel
      obtain ⟨k, hik⟩ : ∃ k, ks[i]? = some k := ⟨_, List.getElem?_eq_getElem hlt⟩
      have hkr := hkr' k (List.mem_of_getElem? hik)
      obtain ⟨kg, rfl⟩ : ∃ kg, kp = some ⟨kg, 0, none⟩ := by
        obtain ⟨g, c, e⟩ := Joins.ownsRow_form hLE.kk (by omega)
        injection e with e1 _ _
        exact ⟨g, e1⟩
      obtain ⟨cb, cc, rfl⟩ := Joins.ownsRow_form hLE0.cc (by omega)
      have o1 : wr.cell? ⟨kg, i, none⟩ = some (.int .i64 k) := by
        obtain ⟨_, h⟩ := row_int hLE.kk (k := i) hlt
        rw [h, show ks.getD i 0 = k by simp [List.getD, hik]]
      obtain ⟨kcur, g1, g2⟩ := hLE.kds
      have o2 : wr.cell? ⟨kd, i, none⟩ = some (vs i) := (Joins.cell_of_block g1 i).trans (g2 i hlt)
      have o3 : wr.cell? ⟨ub, 0, none⟩ = some (.slice (some ⟨kd, 0, none⟩) ks.length ks.length) := Joins.cell_of_block hLE.sup 0
      obtain ⟨dd, hdd⟩ : ∃ dd, ds.getD i 0 = dd := ⟨_, rfl⟩
      have hdn : dd.natAbs < 9007199254740992 := by rw [← hdd]; exact hds _ (getD_mem (by omega))
      have hsh := csOf_shift f t V s e len ks i k hik
      have hsucc := allP_succ sp ds (csOf (100000 + f) (100000 + t) V (fun i => 100000 + s i) (fun i => 100000 + e i) len ks) i
      rw [hsh, hdd] at hsucc
      have hPL : ∀ m, m + 1 < (cutsOf f t (bdK V s e len k)).length → (allP sp ds (csOf (100000 + f) (100000 + t) V (fun i => 100000 + s i) (fun i => 100000 + e i) len ks) ks.length)[(allP sp ds (csOf (100000 + f) (100000 + t) V (fun i => 100000 + s i) (fun i => 100000 + e i) len ks) i).length + m]? = some (i, cntOf dd sp ((cutsOf f t (bdK V s e len k)).getD m 0) ((cutsOf f t (bdK V s e len k)).getD (m + 1) 0), 100000 + (cutsOf f t (bdK V s e len k)).getD m 0) := fun m hm => by
        rw [allP_get sp ds _ ks.length i m hlt (by rw [hsh, pieces_length, List.length_map]; omega), hsh, hdd, pieces_get i dd sp _ m (by rw [List.length_map]; exact hm), getD_map _ _ _ (by omega), getD_map _ _ _ hm, cnt_shift]
      have hnext : (allP sp ds (csOf (100000 + f) (100000 + t) V (fun i => 100000 + s i) (fun i => 100000 + e i) len ks) i).length + ((cutsOf f t (bdK V s e len k)).length - 1) = (allP sp ds (csOf (100000 + f) (100000 + t) V (fun i => 100000 + s i) (fun i => 100000 + e i) len ks) (i + 1)).length := by
        rw [hsucc, List.length_append, pieces_length, List.length_map]
      have hk0b : (allP sp ds (csOf (100000 + f) (100000 + t) V (fun i => 100000 + s i) (fun i => 100000 + e i) len ks) i).length ≤ 1000000000 := by have := hAll.out i (by omega); omega
      have hPb : (allP sp ds (csOf (100000 + f) (100000 + t) V (fun i => 100000 + s i) (fun i => 100000 + e i) len ks) ks.length).length ≤ 1000000000 := by have := hAll.out ks.length hK; omega
      obtain ⟨k0, hk0⟩ : ∃ k0, (allP sp ds (csOf (100000 + f) (100000 + t) V (fun i => 100000 + s i) (fun i => 100000 + e i) len ks) i).length = k0 := ⟨_, rfl⟩
      rw [hk0] at hPL hnext hk0b
      rw [hk0]
      have hAg : Aside ((∀ j, V j = M j % 3) ∧ ArgC w w.heap.size a1 len M s e ∧ LE w tb ub kd ks ds vs (.slice (some ⟨kg, 0, none⟩) ks.length kc) (.slice (some ⟨cb, 0, none⟩) ks.length cc) pv (allP sp ds (csOf (100000 + f) (100000 + t) V (fun i => 100000 + s i) (fun i => 100000 + e i) len ks) ks.length) wE ∧ (∀ m, m + 1 < (cutsOf f t (bdK V s e len k)).length → (allP sp ds (csOf (100000 + f) (100000 + t) V (fun i => 100000 + s i) (fun i => 100000 + e i) len ks) ks.length)[k0 + m]? = some (i, cntOf dd sp ((cutsOf f t (bdK V s e len k)).getD m 0) ((cutsOf f t (bdK V s e len k)).getD (m + 1) 0), 100000 + (cutsOf f t (bdK V s e len k)).getD m 0)) ∧ k0 + ((cutsOf f t (bdK V s e len k)).length - 1) = (allP sp ds (csOf (100000 + f) (100000 + t) V (fun i => 100000 + s i) (fun i => 100000 + e i) len ks) (i + 1)).length) := ⟨hV, hArg, hLE0, hPL, hnext⟩
      have hAbel : Aside (Below wE.heap.size wE wr) := hbel
      have hvis := hLE.vis i k hik
      have hlt' : (i : Int) < (ks.length : Int) := by omega
      clear hArg hkr' hds hLE0 hV hLE g1 g2 hsh hsucc hPL hnext hbel hk0 hik
      rcases hvis with ⟨rfl, hvn⟩ | ⟨m, hm3, rfl, r, hvr, hM⟩
      · obtain ⟨mp, hmp, hln⟩ : ∃ mp, vs i = .map mp ∧ ∀ ty, (Builtin.len_ #[49] ty #[.map mp]).run Ybaz.prog wr = .ok (.int .i64 0) wr := by
          rcases hvn with h | ⟨r, h, hM⟩
          · refine ⟨none, h, fun ty => ?_⟩
            simp [Builtin.len_, run_underlying Ybaz.underlying49, goInt]
          · exact ⟨some r, h, fun ty => hM.len (t := 49) (e := 9) Ybaz.underlying49⟩
        rw [hmp] at o2
        clear hvn
        refine wp_seq_k fun Ka hKa => ?_
        have hKa' : Aside (∀ (a : Act) (w : World), _ → Ka a w) := hKa
        clear hKa
        go_wp2
        refine hKa'.out _ _ ?_
        clear hKa'
        refine wp_seq_k fun Kb hKb => ?_
        have hKb' : Aside (∀ (a : Act) (w : World), _ → Kb a w) := hKb
        clear hKb
        go_wp2
        refine hKb'.out _ _ ?_
        clear hKb'
        refine wp_seq_k fun Kc hKc => ?_
        have hKc' : Aside (∀ (a : Act) (w : World), _ → Kc a w) := hKc
        clear hKc
        refine wp_block ?_
        refine wp_seq_k fun Kd hKd => ?_
        have hKd' : Aside (∀ (a : Act) (w : World), _ → Kd a w) := hKd
        clear hKd
        go_wp2
        refine hKd'.out _ _ ?_
        clear hKd'
        refine wp_seq_k fun Ke hKe => ?_
        have hKe' : Aside (∀ (a : Act) (w : World), _ → Ke a w) := hKe
        clear hKe
        go_wp2
        refine hKe'.out _ _ ?_
        clear hKe'
        refine wp_seq_k fun Kx hKx => ?_
        have hKx' : Aside (∀ (a : Act) (w : World), _ → Kx a w) := hKx
        clear hKx
        go_wp2
        refine hKx'.out _ _ ?_
        clear hKx'
        refine law_F a1 len cap1 tb ub kd i k0 M V s e ks ds vs (.slice (some ⟨kg, 0, none⟩) ks.length kc) (.slice (some ⟨cb, 0, none⟩) ks.length cc) pv (allP sp ds (csOf (100000 + f) (100000 + t) V (fun i => 100000 + s i) (fun i => 100000 + e i) len ks) ks.length) f t sp dd (-1) w wE wr hAg.out.1 hlen hAg.out.2.1 hkr hAg.out.2.2.1 hAbel.out hf ht hft hlt hdl hdd hdn hsp0 hsp1 hAg.out.2.2.2.1 hPb hk0b _ _ _ _ _ _ _ _ _ _ _ _ _ _ _ _ _ _ _ _ _ _ _ _ _ _ _ _ _ _ _ _ _ _ _ _ _ _ _ _ _ _ _ _ _ _ _ _ _ _ _ _ _ _ _ _ _ _ _ _ _ _ _ _ _ _ _ _ _ _ _ _ _ _ _ _ _ _ _ _ _ _ _ _ _ _ _ _ _ _ _ _ _ _ _ _ _ _ _ _ _ _ _ _ _ _ _ _ _ _ _ _ _ _ _ _ _ _ _ _ _ _ _ _ _ _ _ _ _ _ _ _ _ _ _ _ _ _ _ _ _ _ _ _ _ _ _ _ _ _ _ _ _ _ _ _ _ _ _ _ _ _ _ _ _ _ _ _ _ _ _ _ _ _ _ _ _ _ _ _ _ _ _ _ _ _ _ _ _ _ _ _ _ _ _ _ _ _ _ _ _ _ _ _ _ _ _ _ _ _ _ _ _ _ _ _ _ _ _ _ _ _ _ _ _ _ _ _ _ _ _ _ _ _ _ _ _ _ _ _ _ _ _ _ _ _ _ _ _ _ _ _ _ _ _ _ _ _ _ _ _ _ _ _ _ _ _ _ _ _ _ _ _ _ _ _ _ _ _ _ _ _ _ _ _ _ _ _ _ _ _ _ _ _ _ _ _ _ _ _ _ _ _ _ _ _ _ _ _ _ _ _ _ _ _ _ _ _ ?_
        intro w' e10 e35 e37 e38 e40 e41 e42 e43 e204 e205 e206 e207 e208 e209 e210 e211 e212 e213 e214 e215 e216 e217 e218 e219 e220 e221 e222 e223 e224 e225 e226 e227 e228 e229 e230 e231 e232 e233 e234 e235 e236 e237 e238 e239 e240 e241 e242 e243 e244 e245 e246 e247 e248 e249 e250 e251 e252 e253 e254 e255 e256 e257 e258 e259 e260 e261 e262 e263 e264 e265 e266 e267 e268 e269 e270 e271 e272 e273 e274 e275 e276 e277 e278 e279 e280 e281 e282 e283 e284 e285 e286 e287 e288 e289 e290 e291 e292 e293 e294 e295 e296 e297 e298 e299 e300 e301 e302 e303 e304 e305 e306 e307 e308 e309 e310 e311 e312 e313 e314 e315 e316 e317 e318 e319 e320 hbw
        refine hKc'.out _ _ ?_
        clear hKc'
        rw [hAg.out.2.2.2.2]
        have hA9 : Aside (Below wE.heap.size wE w') := hbw
        clear hbw
        go_wp2
        go_roundg (ks.length - i)
        case measure => omega
        case rel => exact ⟨i + 1, by go_num, rfl, by omega, by omega, hA9.out⟩
      · have hge : ¬ ((m : Int) < 0) := by omega
        rw [hvr] at o2
        have hAM : Aside (MapL wr r [(aS, .string (valS m))]) := hM
        clear hM
        refine wp_seq_k fun Ka hKa => ?_
        have hKa' : Aside (∀ (a : Act) (w : World), _ → Ka a w) := hKa
        clear hKa
        go_wp2
        refine hKa'.out _ _ ?_
        clear hKa'
        refine wp_seq_k fun Kb hKb => ?_
        have hKb' : Aside (∀ (a : Act) (w : World), _ → Kb a w) := hKb
        clear hKb
        go_wp2
        refine hKb'.out _ _ ?_
        clear hKb'
        refine wp_seq_k fun Kc hKc => ?_
        have hKc' : Aside (∀ (a : Act) (w : World), _ → Kc a w) := hKc
        clear hKc
        refine wp_block ?_
        refine wp_seq_k fun Kd hKd => ?_
        have hKd' : Aside (∀ (a : Act) (w : World), _ → Kd a w) := hKd
        clear hKd
        go_wp2
        refine hKd'.out _ _ ?_
        clear hKd'
        refine wp_seq_k fun Ke hKe => ?_
        have hKe' : Aside (∀ (a : Act) (w : World), _ → Ke a w) := hKe
        clear hKe
        go_wp2
        refine hKe'.out _ _ ?_
        clear hKe'
        refine wp_seq_k fun Kx hKx => ?_
        have hKx' : Aside (∀ (a : Act) (w : World), _ → Kx a w) := hKx
        clear hKx
        go_wp2
        refine law_r49 r m wr hm3 hAM.out _ _ _ _ _ _ _ _ _ _ _ _ _ _ _ _ _ _ _ _ _ _ _ _ _ _ _ _ _ _ _ _ _ _ _ _ _ _ _ _ _ _ _ _ _ _ _ _ _ _ _ _ _ _ _ _ _ _ _ _ _ _ _ _ _ _ _ _ _ _ _ _ _ _ _ _ _ _ _ _ _ _ _ _ _ _ _ _ _ _ _ _ _ _ _ _ _ _ _ _ _ _ _ _ _ _ _ _ _ _ _ _ _ _ _ _ _ _ _ _ _ _ _ _ _ _ _ _ _ _ _ _ _ _ _ _ _ _ _ _ _ _ _ _ _ _ _ _ _ _ _ _ _ _ _ _ _ _ _ _ _ _ _ _ _ _ _ _ _ _ _ _ _ _ _ _ _ _ _ _ _ _ _ _ _ _ _ _ _ _ _ _ _ _ _ _ _ _ _ _ _ _ _ _ _ (fun w9 e194 e195 e196 e197 e198 e199 e200 e201 e202 hl9 => ?_)
        have hAb9 : Aside (Below wE.heap.size wE w9) := hAbel.out.trans (hl9.below.mono hAbel.out.size)
        clear hl9
        go_wp2
        refine hKx'.out _ _ ?_
        clear hKx'
        refine law_F a1 len cap1 tb ub kd i k0 M V s e ks ds vs (.slice (some ⟨kg, 0, none⟩) ks.length kc) (.slice (some ⟨cb, 0, none⟩) ks.length cc) pv (allP sp ds (csOf (100000 + f) (100000 + t) V (fun i => 100000 + s i) (fun i => 100000 + e i) len ks) ks.length) f t sp dd ((m : Nat) : Int) w wE w9 hAg.out.1 hlen hAg.out.2.1 hkr hAg.out.2.2.1 hAb9.out hf ht hft hlt hdl hdd hdn hsp0 hsp1 hAg.out.2.2.2.1 hPb hk0b _ _ _ _ _ _ _ _ _ _ _ _ _ _ _ _ _ _ _ _ _ _ _ _ _ _ _ _ _ _ _ _ _ _ _ _ _ _ _ _ _ _ _ _ _ _ _ _ _ _ _ _ _ _ _ _ _ _ _ _ _ _ _ _ _ _ _ _ _ _ _ _ _ _ _ _ _ _ _ _ _ _ _ _ _ _ _ _ _ _ _ _ _ _ _ _ _ _ _ _ _ _ _ _ _ _ _ _ _ _ _ _ _ _ _ _ _ _ _ _ _ _ _ _ _ _ _ _ _ _ _ _ _ _ _ _ _ _ _ _ _ _ _ _ _ _ _ _ _ _ _ _ _ _ _ _ _ _ _ _ _ _ _ _ _ _ _ _ _ _ _ _ _ _ _ _ _ _ _ _ _ _ _ _ _ _ _ _ _ _ _ _ _ _ _ _ _ _ _ _ _ _ _ _ _ _ _ _ _ _ _ _ _ _ _ _ _ _ _ _ _ _ _ _ _ _ _ _ _ _ _ _ _ _ _ _ _ _ _ _ _ _ _ _ _ _ _ _ _ _ _ _ _ _ _ _ _ _ _ _ _ _ _ _ _ _ _ _ _ _ _ _ _ _ _ _ _ _ _ _ _ _ _ _ _ _ _ _ _ _ _ _ _ _ _ _ _ _ _ _ _ _ _ _ _ _ _ _ _ _ _ _ _ _ _ _ _ _ ?_
        intro w' e10 e35 e37 e38 e40 e41 e42 e43 e204 e205 e206 e207 e208 e209 e210 e211 e212 e213 e214 e215 e216 e217 e218 e219 e220 e221 e222 e223 e224 e225 e226 e227 e228 e229 e230 e231 e232 e233 e234 e235 e236 e237 e238 e239 e240 e241 e242 e243 e244 e245 e246 e247 e248 e249 e250 e251 e252 e253 e254 e255 e256 e257 e258 e259 e260 e261 e262 e263 e264 e265 e266 e267 e268 e269 e270 e271 e272 e273 e274 e275 e276 e277 e278 e279 e280 e281 e282 e283 e284 e285 e286 e287 e288 e289 e290 e291 e292 e293 e294 e295 e296 e297 e298 e299 e300 e301 e302 e303 e304 e305 e306 e307 e308 e309 e310 e311 e312 e313 e314 e315 e316 e317 e318 e319 e320 hbw
        refine hKc'.out _ _ ?_
        clear hKc'
        rw [hAg.out.2.2.2.2]
        have hA9 : Aside (Below wE.heap.size wE w') := hbw
        clear hbw
        go_wp2
        go_roundg (ks.length - i)
        case measure => omega
        case rel => exact ⟨i + 1, by go_num, rfl, by omega, by omega, hA9.out⟩
    · obtain rfl : i = ks.length := by omega
      obtain ⟨_, _, _, hLE0, _⟩ := hA.out
      have hLE := hLE0.later hbel
      obtain ⟨pp, pc, rfl⟩ := own_form hLE.pcs
      have o1 : wr.cell? ⟨ub, 1, none⟩ = some (.slice pp (allP sp ds (csOf (100000 + f) (100000 + t) V (fun i => 100000 + s i) (fun i => 100000 + e i) len ks) ks.length).length pc) := Joins.cell_of_block hLE.sup 1
      have hAw : Aside (Below w.heap.size w wr) := hLE.below
      obtain ⟨PN, hPN⟩ : ∃ PN, (allP sp ds (csOf (100000 + f) (100000 + t) V (fun i => 100000 + s i) (fun i => 100000 + e i) len ks) ks.length).length = PN := ⟨_, rfl⟩
      rw [hPN] at o1
      rw [hPN]
      clear hLE0 hLE hbel hPN
      go_wp2
      refine hK1'.out _ _ ?_
      go_wp2
      exact hAR.out wr hAw.out
end Go.Proofs.YbulkcelaGreatDoor
