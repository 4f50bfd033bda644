/-
  matching, behind the terms (seat b4030aZD).
-/
import Derived.Test.YbulkcelaGreatDoorMatS
import Derived.Scope
namespace Go.Proofs.YbulkcelaGreatDoor
open Go.RowKit Go.MapKept Go.Lib Go.Shelf Go.Maps

theorem wpList_append_run {P : Program} {ops : Array Oper} {rest : List Oper} {o : Oper} {a : Act} {w : World} {Q : Exit → Act → World → Prop} (hgd : o.guard = none) (s x : Operand) (t : TypeId)
    (ho : o.op = .call { callee := .builtin .append, args := #[s, x], argTypes := #[t, t] }) (vs vx : Value) (hs : a.eval s = vs) (hx : a.eval x = vx) {v' : Value} {w' : World} (hrun : (Builtin.append_ #[t, t] o.type #[vs, vx]).run P w = .ok v' w')
    (h : wpList P ops Q rest (a.put o.dst v') w') : wpList P ops Q (o :: rest) a w :=
  wpList_plain hgd fun _ hK => by
    unfold Oper.wp execOp
    simp only [ho, resolve, invoke, builtin, Sem.run_bind, Sem.run_pure, Result.andThen_ok, List.map_toArray, List.map_cons, List.map_nil, hs, hx, hrun]
    exact hK _ _ h

noncomputable def matC : Code := (Ybaz.f56.body.bind (fromR 31)).getD .skip

theorem setCells3 (w : World) (b : Nat) (a0 a1 a2 : Value) : w.setCells b 0 [a0, a1, a2] = ((w.setCell ⟨b, 0, none⟩ a0).setCell ⟨b, 1, none⟩ a1).setCell ⟨b, 2, none⟩ a2 := rfl

/-- What the tail leaves. -/
structure MTail (W : World) (tb : Nat) (dv : Value) (w' : World) : Prop where
  os : w'.os = W.os
  tape : w'.tape = W.tape
  output : w'.output = W.output
  size : W.heap.size ≤ w'.heap.size
  block : ∀ k, k < W.heap.size → k ≠ tb → dv.ownBlock ≠ some k → w'.heap[k]? = W.heap[k]?

set_option linter.unusedSimpArgs false in
set_option maxRecDepth 100000 in
set_option maxHeartbeats 1000000 in
theorem mat_tail1 (tb cb nb hb nh hc t g gc j m lo hi ng nc D dc : Nat) (dp : Option Addr) (hd : Int) (w : World) (htb : w.heap[tb]? = some (.cells #[.pointer (some ⟨cb, 0, none⟩), .slice (some ⟨ng, 0, none⟩) 1 nc, .int .i64 hd] 154 (0, 0))) (hD : D ≤ w.heap.size) (hrow : w.ownsRow D 3 1 (.slice dp 0 dc) 0 []) (hlw : ∀ k, lo ≤ k → k < hi → k ≠ tb) (hlw2 : hi ≤ w.heap.size)
    (hnt : ng ≠ tb) (qn : w.cell? ⟨ng, 0, none⟩ = some (.int .i32 ((t + 1 : Nat) : Int))) (hC : ColHas lo hi w cb nb hb nh hc t g gc j m) (c0 c2 c3 c4 c5 c6 c7 c10 c11 c12 c13 c14 c15 c16 c17 c18 c19 c20 c21 c22 c23 c24 c25 c26 c27 c28 c29 c30 c31 c32 c33 c34 c35 c36 c37 c38 c39 c40 c41 c42 c43 c44 c45 c46 c47 c48 c49 c50 c51 c52 c53 c54 c55 c56 c57 c58 c59 c60 c61 c62 c63 c64 c65 c66 c67 c68 c69 c70 c71 c72 c73 c74 c75 c76 c77 c78 c79 c80 c81 c82 c83 c84 c85 c86 c87 c88 c89 c90 c91 c92 c93 c94 c95 c96 c97 c98 c99 c100 c101 c102 c103 c104 c105 c106 c107 c108 c109 c110 c111 c112 c113 c114 c115 c116 c117 c118 c119 c120 c121 c122 c123 c124 c125 c126 c127 c128 c129 c130 c131 c132 c133 c134 c135 c136 c137 c138 c139 c140 c141 c142 c143 c144 c145 c146 c147 c148 c149 c150 c151 c152 c153 c154 c155 c156 c157 c158 c159 c160 c161 c162 c163 c164 c165 c166 c167 c168 c169 c170 c171 c172 c173 c174 c175 c176 c177 c178 c179 c180 c181 c182 c183 c184 c185 c186 c187 c188 c189 c190 c191 c192 c193 c194 c195 c196 c197 c198 c199 c200 c201 c202 c203 c204 c205 c206 c207 c208 c209 c210 c211 c212 c213 : Value) :
    matC.wp Ybaz.prog (bodyPost Ybaz.prog Ybaz.f56 fun e w' => ∃ g2 c2, e = .returned (.slice (some ⟨g2, 0, none⟩) 1 c2) ∧ w'.ownsRow D 3 1 (.slice (some ⟨g2, 0, none⟩) 1 c2) 1 [.int .i64 (j : Nat)] ∧ ((Value.slice dp 0 dc).ownBlock = some g2 ∨ w.heap.size ≤ g2) ∧ MTail w tb (.slice dp 0 dc) w') ⟨#[c0, .slice dp 0 dc, c2, c3, c4, c5, c6, c7, .slice (some ⟨tb, 0, none⟩) 1 1, .int .i64 0, c10, c11, c12, c13, c14, c15, c16, c17, c18, c19, c20, c21, c22, c23, c24, c25, c26, c27, c28, c29, c30, c31, c32, c33, c34, c35, c36, c37, c38, c39, c40, c41, c42, c43, c44, c45, c46, c47, c48, c49, c50, c51, c52, c53, c54, c55, c56, c57, c58, c59, c60, c61, c62, c63, c64, c65, c66, c67, c68, c69, c70, c71, c72, c73, c74, c75, c76, c77, c78, c79, c80, c81, c82, c83, c84, c85, c86, c87, c88, c89, c90, c91, c92, c93, c94, c95, c96, c97, c98, c99, c100, c101, c102, c103, c104, c105, c106, c107, c108, c109, c110, c111, c112, c113, c114, c115, c116, c117, c118, c119, c120, c121, c122, c123, c124, c125, c126, c127, c128, c129, c130, c131, c132, c133, c134, c135, c136, c137, c138, c139, c140, c141, c142, c143, c144, c145, c146, c147, c148, c149, c150, c151, c152, c153, c154, c155, c156, c157, c158, c159, c160, c161, c162, c163, c164, c165, c166, c167, c168, c169, c170, c171, c172, c173, c174, c175, c176, c177, c178, c179, c180, c181, c182, c183, c184, c185, c186, c187, c188, c189, c190, c191, c192, c193, c194, c195, c196, c197, c198, c199, c200, c201, c202, c203, c204, c205, c206, c207, c208, c209, c210, c211, c212, c213], []⟩ w := by
  have hdb : ∀ d, (Value.slice dp 0 dc).ownBlock = some d → d < w.heap.size ∧ ∃ cur, w.heap[d]? = some (.cells cur 3 (0, 0)) := fun d hd => ⟨(hrow.lt d hd).2, (own_block hrow hd).2⟩
  have htl : tb < w.heap.size := (Array.getElem?_eq_some_iff.1 htb).1
  obtain ⟨w1, hw1⟩ : ∃ w1, w.alloc (.cells #[.pointer (some ⟨cb, 0, none⟩), .slice (some ⟨ng, 0, none⟩) 1 nc, .int .i64 hd] 154) = w1 := ⟨_, rfl⟩
  have hs1 : w1.heap.size = w.heap.size + 1 := by rw [← hw1]; simp
  have hk1 : ∀ k, k < w.heap.size → w1.heap[k]? = w.heap[k]? := fun k hk => by rw [← hw1]; exact Below.heap_alloc _ _ _ hk
  have htb1 := (hk1 tb htl).trans htb
  have hpb1 : w1.heap[w.heap.size]? = some (.cells #[.pointer (some ⟨cb, 0, none⟩), .slice (some ⟨ng, 0, none⟩) 1 nc, .int .i64 hd] 154 (0, 0)) := by rw [← hw1, alloc_at, if_pos rfl]
  have hdel := del73 tb _ w1 htb1 rfl
  obtain ⟨w2, hw2⟩ : ∃ w2, w1.drew.setCells tb 0 [.pointer none, .slice none 0 0, .int .i64 0] = w2 := ⟨_, rfl⟩
  rw [hw2] at hdel
  have hs2 : w2.heap.size = w1.heap.size := by rw [← hw2, setCells3]; simp [World.setCell]
  have hk2 : ∀ k, k ≠ tb → w2.heap[k]? = w1.heap[k]? := fun k hk => by
    rw [← hw2, setCells3, Below.heap_setCell _ _ _ _ hk, Below.heap_setCell _ _ _ _ hk, Below.heap_setCell _ _ _ _ hk]; rfl
  have hk : ∀ k, k < w.heap.size → k ≠ tb → w2.heap[k]? = w.heap[k]? := fun k h1 h2 => (hk2 k h2).trans (hk1 k h1)
  have hpb2 := (hk2 w.heap.size (by omega)).trans hpb1
  have p0 : w2.cell? ⟨w.heap.size, 0, none⟩ = some (.pointer (some ⟨cb, 0, none⟩)) := Joins.cell_of_block hpb2 0
  have p1 : w2.cell? ⟨w.heap.size, 1, none⟩ = some (.slice (some ⟨ng, 0, none⟩) 1 nc) := Joins.cell_of_block hpb2 1
  have hC2 := hC.kept fun k h1 h2 => hk k (by omega) (hlw k h1 h2)
  have qn2 : w2.cell? ⟨ng, 0, none⟩ = some (.int .i32 ((t + 1 : Nat) : Int)) := (World.cell?_of_block (hk ng (cell_lt qn) hnt)).trans qn
  have q2 := hC2.c2
  have qh := hC2.ch
  have qg := hC2.cg
  have ht' : ((t + 1 : Nat) : Int) < (nh : Int) := by have := hC.tn; omega
  have hrow2 : w2.ownsRow D 3 1 (.slice dp 0 dc) 0 [] := by
    obtain ⟨h0, h1 | ⟨gg, cap, cur, e1, e2, e3, e4⟩⟩ := hrow
    · exact ⟨h0, .inl h1⟩
    · exact ⟨h0, .inr ⟨gg, cap, cur, e1, e2, (hk gg (Array.getElem?_eq_some_iff.1 e3).1 (fun e => by subst e; rw [htb] at e3; cases e3)).trans e3, e4⟩⟩
  obtain ⟨i0, hi0, hz0, hz1, hz2⟩ := info_parts Ybaz.info3
  obtain ⟨g2, c2, w4, hap, hown, hgr, hlie, hlt⟩ := run_append_lies (P := Ybaz.prog) (w2.alloc (.cells #[.int .i64 (j : Nat)] 3)) 44 44 D 3 i0 (.int .i64 0) 1 8 Ybaz.underlying44 hi0 hz0 hz1 hz2 rfl (by decide) (.slice dp 0 dc) 0 [] (hrow2.alloc _) ⟨w2.heap.size, 0, none⟩ 1 1 [.int .i64 (j : Nat)] rfl (cell_one_new _ _ _) (by intro u hu; simp at hu; subst hu; rfl) (by decide) (by unfold maxLen; omega) (by omega) (by simp; omega) _ rfl
  have hA : Aside (w4.ownsRow D 3 1 (.slice (some ⟨g2, 0, none⟩) (0 + 1) c2) (0 + 1) ([] ++ [.int .i64 (j : Nat)]) ∧ (w2.alloc (.cells #[.int .i64 (j : Nat)] 3)).grownBy w4 (Value.slice dp 0 dc).ownBlock ∧ ((Value.slice dp 0 dc).ownBlock = some g2 ∨ g2 = (w2.alloc (.cells #[.int .i64 (j : Nat)] 3)).heap.size) ∧ (∀ k, k < w.heap.size → k ≠ tb → w2.heap[k]? = w.heap[k]?) ∧ w2.heap.size = w.heap.size + 1 ∧ w2.os = w.os ∧ w2.tape = w.tape ∧ w2.output = w.output ∧ (∀ d, (Value.slice dp 0 dc).ownBlock = some d → d < w.heap.size ∧ ∃ cur, w.heap[d]? = some (.cells cur 3 (0, 0)))) := ⟨hown, hgr, hlie, hk, by omega, by rw [← hw2, ← hw1]; rfl, by rw [← hw2, ← hw1]; rfl, by rw [← hw2, ← hw1]; rfl, hdb⟩
  have p14 : w4.cell? ⟨w.heap.size, 1, none⟩ = some (.slice (some ⟨ng, 0, none⟩) 1 nc) := by
    have hb : w4.heap[w.heap.size]? = w2.heap[w.heap.size]? := (hgr.block _ (by simp; omega) (fun e => by have := (hdb _ e.symm).1; omega)).trans (Below.heap_alloc _ _ _ (by omega))
    exact (World.cell?_of_block hb).trans p1
  have t0 : w.cell? ⟨tb, 0, none⟩ = some (.pointer (some ⟨cb, 0, none⟩)) := Joins.cell_of_block htb 0
  have t1 : w.cell? ⟨tb, 1, none⟩ = some (.slice (some ⟨ng, 0, none⟩) 1 nc) := Joins.cell_of_block htb 1
  have t2 : w.cell? ⟨tb, 2, none⟩ = some (.int .i64 hd) := Joins.cell_of_block htb 2
  clear hown hgr hlie hk hs1 hk1 htb1 hpb1 hs2 hk2 hpb2 hC hC2 hrow hrow2 hdb hw2 qn hi0 hz0 hz1 hz2 hlt htb hlw hlw2
  obtain ⟨T, hT⟩ : ∃ T, t + 1 = T := ⟨_, rfl⟩
  rw [hT] at ht' qh qn2
  conv => arg 2; whnf
  go_wp2_with (go_at_call 73; refine hdel.mono ?_; rintro e w3 ⟨rfl, hw3⟩; obtain rfl := hw3.symm)
  refine wp_loop_rounds 2 ?_
  rw [rounds_succ]
  go_wp2
  refine wp_scope_straight (wp_seq (wp_label ?_))
  go_wp2
  refine wp_loop_rounds 2 ?_
  rw [rounds_succ]
  go_wp2
  refine wp_loop_rounds 1 ?_
  rw [rounds_succ]
  go_wp2_with (at_builtin; refine wpList_append_run rfl (.tmp 199) (.tmp 201) 44 rfl _ _ rfl rfl hap ?_)
  rw [rounds_succ]
  go_wp2
  dsimp only [Exit.noGoto]
  go_wp2
  rw [rounds_succ]
  go_wp2
  go_ret
  obtain ⟨hown, hgr, hlie, hk, hs2, ho, hta, hou, hdb⟩ := hA.out
  have hsz := hgr.size
  simp at hsz hlie
  refine ⟨g2, c2, rfl, hown, ?_, hgr.os.trans ho, hgr.tape.trans hta, hgr.output.trans hou, by omega, fun k h1 h2 h3 => ?_⟩
  · rcases hlie with h | h
    · exact .inl h
    · exact .inr (by omega)
  · rw [hgr.block k (by simp; omega) (fun e => h3 e.symm), Below.heap_alloc _ _ _ (by omega)]
    exact hk k h1 h2
set_option linter.unusedSimpArgs false in
set_option maxRecDepth 100000 in
set_option maxHeartbeats 1000000 in
theorem mat_tail0 (tb cb dc : Nat) (dp : Option Addr) (hd : Int) (w : World) (htb : w.heap[tb]? = some (.cells #[.pointer (some ⟨cb, 0, none⟩), .slice none 0 0, .int .i64 hd] 154 (0, 0))) (c0 c2 c3 c4 c5 c6 c7 c10 c11 c12 c13 c14 c15 c16 c17 c18 c19 c20 c21 c22 c23 c24 c25 c26 c27 c28 c29 c30 c31 c32 c33 c34 c35 c36 c37 c38 c39 c40 c41 c42 c43 c44 c45 c46 c47 c48 c49 c50 c51 c52 c53 c54 c55 c56 c57 c58 c59 c60 c61 c62 c63 c64 c65 c66 c67 c68 c69 c70 c71 c72 c73 c74 c75 c76 c77 c78 c79 c80 c81 c82 c83 c84 c85 c86 c87 c88 c89 c90 c91 c92 c93 c94 c95 c96 c97 c98 c99 c100 c101 c102 c103 c104 c105 c106 c107 c108 c109 c110 c111 c112 c113 c114 c115 c116 c117 c118 c119 c120 c121 c122 c123 c124 c125 c126 c127 c128 c129 c130 c131 c132 c133 c134 c135 c136 c137 c138 c139 c140 c141 c142 c143 c144 c145 c146 c147 c148 c149 c150 c151 c152 c153 c154 c155 c156 c157 c158 c159 c160 c161 c162 c163 c164 c165 c166 c167 c168 c169 c170 c171 c172 c173 c174 c175 c176 c177 c178 c179 c180 c181 c182 c183 c184 c185 c186 c187 c188 c189 c190 c191 c192 c193 c194 c195 c196 c197 c198 c199 c200 c201 c202 c203 c204 c205 c206 c207 c208 c209 c210 c211 c212 c213 : Value) :
    matC.wp Ybaz.prog (bodyPost Ybaz.prog Ybaz.f56 fun e w' => e = .returned (.slice dp 0 dc) ∧ MTail w tb (.slice none 0 0) w') ⟨#[c0, .slice dp 0 dc, c2, c3, c4, c5, c6, c7, .slice (some ⟨tb, 0, none⟩) 1 1, .int .i64 0, c10, c11, c12, c13, c14, c15, c16, c17, c18, c19, c20, c21, c22, c23, c24, c25, c26, c27, c28, c29, c30, c31, c32, c33, c34, c35, c36, c37, c38, c39, c40, c41, c42, c43, c44, c45, c46, c47, c48, c49, c50, c51, c52, c53, c54, c55, c56, c57, c58, c59, c60, c61, c62, c63, c64, c65, c66, c67, c68, c69, c70, c71, c72, c73, c74, c75, c76, c77, c78, c79, c80, c81, c82, c83, c84, c85, c86, c87, c88, c89, c90, c91, c92, c93, c94, c95, c96, c97, c98, c99, c100, c101, c102, c103, c104, c105, c106, c107, c108, c109, c110, c111, c112, c113, c114, c115, c116, c117, c118, c119, c120, c121, c122, c123, c124, c125, c126, c127, c128, c129, c130, c131, c132, c133, c134, c135, c136, c137, c138, c139, c140, c141, c142, c143, c144, c145, c146, c147, c148, c149, c150, c151, c152, c153, c154, c155, c156, c157, c158, c159, c160, c161, c162, c163, c164, c165, c166, c167, c168, c169, c170, c171, c172, c173, c174, c175, c176, c177, c178, c179, c180, c181, c182, c183, c184, c185, c186, c187, c188, c189, c190, c191, c192, c193, c194, c195, c196, c197, c198, c199, c200, c201, c202, c203, c204, c205, c206, c207, c208, c209, c210, c211, c212, c213], []⟩ w := by
  have htl : tb < w.heap.size := (Array.getElem?_eq_some_iff.1 htb).1
  obtain ⟨w1, hw1⟩ : ∃ w1, w.alloc (.cells #[.pointer (some ⟨cb, 0, none⟩), .slice none 0 0, .int .i64 hd] 154) = w1 := ⟨_, rfl⟩
  have hs1 : w1.heap.size = w.heap.size + 1 := by rw [← hw1]; simp
  have hk1 : ∀ k, k < w.heap.size → w1.heap[k]? = w.heap[k]? := fun k hk => by rw [← hw1]; exact Below.heap_alloc _ _ _ hk
  have htb1 := (hk1 tb htl).trans htb
  have hpb1 : w1.heap[w.heap.size]? = some (.cells #[.pointer (some ⟨cb, 0, none⟩), .slice none 0 0, .int .i64 hd] 154 (0, 0)) := by rw [← hw1, alloc_at, if_pos rfl]
  have hdel := del73 tb _ w1 htb1 rfl
  obtain ⟨w2, hw2⟩ : ∃ w2, w1.drew.setCells tb 0 [.pointer none, .slice none 0 0, .int .i64 0] = w2 := ⟨_, rfl⟩
  rw [hw2] at hdel
  have hs2 : w2.heap.size = w1.heap.size := by rw [← hw2, setCells3]; simp [World.setCell]
  have hk2 : ∀ k, k ≠ tb → w2.heap[k]? = w1.heap[k]? := fun k hk => by
    rw [← hw2, setCells3, Below.heap_setCell _ _ _ _ hk, Below.heap_setCell _ _ _ _ hk, Below.heap_setCell _ _ _ _ hk]; rfl
  have hk : ∀ k, k < w.heap.size → k ≠ tb → w2.heap[k]? = w.heap[k]? := fun k h1 h2 => (hk2 k h2).trans (hk1 k h1)
  have hpb2 := (hk2 w.heap.size (by omega)).trans hpb1
  have p1 : w2.cell? ⟨w.heap.size, 1, none⟩ = some (.slice none 0 0) := Joins.cell_of_block hpb2 1
  have hA : Aside ((∀ k, k < w.heap.size → k ≠ tb → w2.heap[k]? = w.heap[k]?) ∧ w2.heap.size = w.heap.size + 1 ∧ w2.os = w.os ∧ w2.tape = w.tape ∧ w2.output = w.output) := ⟨hk, by omega, by rw [← hw2, ← hw1]; rfl, by rw [← hw2, ← hw1]; rfl, by rw [← hw2, ← hw1]; rfl⟩
  have t0 : w.cell? ⟨tb, 0, none⟩ = some (.pointer (some ⟨cb, 0, none⟩)) := Joins.cell_of_block htb 0
  have t1 : w.cell? ⟨tb, 1, none⟩ = some (.slice none 0 0) := Joins.cell_of_block htb 1
  have t2 : w.cell? ⟨tb, 2, none⟩ = some (.int .i64 hd) := Joins.cell_of_block htb 2
  clear hk hs1 hk1 htb1 hpb1 hs2 hk2 hpb2 hw2 htb
  conv => arg 2; whnf
  go_wp2_with (go_at_call 73; refine hdel.mono ?_; rintro e w3 ⟨rfl, hw3⟩; obtain rfl := hw3.symm)
  refine wp_loop_rounds 1 ?_
  rw [rounds_succ]
  go_wp2
  go_ret
  obtain ⟨hk, hs2, ho, hta, hou⟩ := hA.out
  exact ⟨rfl, ho, hta, hou, by omega, fun k h1 h2 _ => hk k h1 h2⟩
end Go.Proofs.YbulkcelaGreatDoor
