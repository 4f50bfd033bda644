/-
  (*index).column: a holder is listed (seat b4030aZD).
-/
import Derived.Test.YbulkcelaGreatDoorFrom
import Derived.Test.YbulkcelaGreatDoorLocks
namespace Go.Proofs.YbulkcelaGreatDoor
open Go.RowKit Go.MapKept Go.Lib Go.Shelf Go.Maps

theorem Ybaz.info3 : (Ybaz.prog.info? 3).map (fun i => (i.zero, i.size, i.bytes)) = some (some (.int .i64 0), 1, 8) := by kernel_rfl

noncomputable def colR18 : Code := (Ybaz.f70.body.bind (regR 18)).getD .skip

set_option linter.unusedSimpArgs false in
set_option maxRecDepth 100000 in
set_option maxHeartbeats 1000000 in
theorem col_r18 (cb hb n hc i t lo : Nat) (w : World) (hlo : lo ≤ w.heap.size) (hf : w.cell? ⟨cb, 2, none⟩ = some (.slice (some ⟨hb, 0, none⟩) n hc)) (ht : t < n) (hcell : w.cell? ⟨hb, t, none⟩ = some (.slice none 0 0)) (hfz : w.frozen? ⟨hb, t, none⟩ = false)
    (df : List Deferred) (Q : Exit → Act → World → Prop) (c0 c1 c2 c3 c4 c5 c8 c9 c11 c12 c13 c14 c15 c16 c17 c18 c19 c20 c21 c22 c23 c24 c25 c26 c27 c28 c29 c30 c31 c32 c33 c34 c35 c36 c37 c38 c39 c40 c41 c42 c43 c44 c45 c46 c47 c48 c49 c50 c51 c52 c53 c54 c55 c56 c57 c58 c59 c60 c61 c62 c63 c64 c65 c66 c67 c68 c69 c70 c71 c72 c73 c74 c75 c76 c77 c78 c79 c80 c81 c82 c83 c84 c85 c86 c87 c88 c89 c90 c91 c92 c93 c94 c95 c96 c97 c98 c99 c100 c101 c102 c103 c104 c105 c106 c107 c108 c109 c110 c111 c112 c113 c114 c115 : Value) (hQ : ∀ (w' : World) (g c : Nat) (e92 e93 e94 e95 e96 e97 e98 e99 e100 e101 e102 e103 e104 e105 e106 e107 : Value), w'.ownsRow lo 3 1 (.slice (some ⟨g, 0, none⟩) 1 c) 1 [.int .i64 i] → w.heap.size ≤ g → Below w.heap.size w w' → Q .normal ⟨#[c0, c1, c2, c3, c4, c5, .pointer (some ⟨cb, 0, none⟩), .int .i64 (i : Nat), c8, c9, .int .i32 (t : Nat), c11, c12, c13, c14, c15, c16, c17, c18, c19, c20, c21, c22, c23, c24, c25, c26, c27, c28, c29, c30, c31, c32, c33, c34, c35, c36, c37, c38, c39, c40, c41, c42, c43, c44, c45, c46, c47, c48, c49, c50, c51, c52, c53, c54, c55, c56, c57, c58, c59, c60, c61, c62, c63, c64, c65, c66, c67, c68, c69, c70, c71, c72, c73, c74, c75, c76, c77, c78, c79, c80, c81, c82, c83, c84, c85, c86, c87, c88, c89, c90, c91, e92, e93, e94, e95, e96, e97, e98, e99, e100, e101, e102, e103, e104, e105, e106, e107, c108, c109, c110, c111, c112, c113, c114, c115], df⟩ (w'.setCell ⟨hb, t, none⟩ (.slice (some ⟨g, 0, none⟩) 1 c))) :
    colR18.wp Ybaz.prog Q ⟨#[c0, c1, c2, c3, c4, c5, .pointer (some ⟨cb, 0, none⟩), .int .i64 (i : Nat), c8, c9, .int .i32 (t : Nat), c11, c12, c13, c14, c15, c16, c17, c18, c19, c20, c21, c22, c23, c24, c25, c26, c27, c28, c29, c30, c31, c32, c33, c34, c35, c36, c37, c38, c39, c40, c41, c42, c43, c44, c45, c46, c47, c48, c49, c50, c51, c52, c53, c54, c55, c56, c57, c58, c59, c60, c61, c62, c63, c64, c65, c66, c67, c68, c69, c70, c71, c72, c73, c74, c75, c76, c77, c78, c79, c80, c81, c82, c83, c84, c85, c86, c87, c88, c89, c90, c91, c92, c93, c94, c95, c96, c97, c98, c99, c100, c101, c102, c103, c104, c105, c106, c107, c108, c109, c110, c111, c112, c113, c114, c115], df⟩ w := by
  have hAQ : Aside (∀ (w' : World) (g c : Nat) (e92 e93 e94 e95 e96 e97 e98 e99 e100 e101 e102 e103 e104 e105 e106 e107 : Value), w'.ownsRow lo 3 1 (.slice (some ⟨g, 0, none⟩) 1 c) 1 [.int .i64 i] → w.heap.size ≤ g → Below w.heap.size w w' → Q .normal ⟨#[c0, c1, c2, c3, c4, c5, .pointer (some ⟨cb, 0, none⟩), .int .i64 (i : Nat), c8, c9, .int .i32 (t : Nat), c11, c12, c13, c14, c15, c16, c17, c18, c19, c20, c21, c22, c23, c24, c25, c26, c27, c28, c29, c30, c31, c32, c33, c34, c35, c36, c37, c38, c39, c40, c41, c42, c43, c44, c45, c46, c47, c48, c49, c50, c51, c52, c53, c54, c55, c56, c57, c58, c59, c60, c61, c62, c63, c64, c65, c66, c67, c68, c69, c70, c71, c72, c73, c74, c75, c76, c77, c78, c79, c80, c81, c82, c83, c84, c85, c86, c87, c88, c89, c90, c91, e92, e93, e94, e95, e96, e97, e98, e99, e100, e101, e102, e103, e104, e105, e106, e107, c108, c109, c110, c111, c112, c113, c114, c115], df⟩ (w'.setCell ⟨hb, t, none⟩ (.slice (some ⟨g, 0, none⟩) 1 c))) := hQ
  obtain ⟨i0, hi0, hz0, hz1, hz2⟩ := info_parts Ybaz.info3
  have Hi : Aside (Ybaz.prog.info? 3 = some i0 ∧ i0.zero = some (.int .i64 0) ∧ i0.size = 1 ∧ i0.bytes = 8) := ⟨hi0, hz0, hz1, hz2⟩
  have hhl : hb < w.heap.size := cell_lt hcell
  have hcl : cb < w.heap.size := cell_lt hf
  have Hone : Aside (0 < 1) := by show 0 < 1; decide
  have Hown : Aside ((w.alloc (.cells #[.int .i64 i] 3)).drew.ownsRow w.heap.size 3 1 (.slice none 0 0) 0 []) := World.ownsRow_nil _ _ _ _
  have Hnews : Aside (∀ (j : Nat) u, [Value.int .i64 i][j]? = some u → (w.alloc (.cells #[.int .i64 i] 3)).drew.cell? (Addr.add ⟨w.heap.size, 0, none⟩ j) = some u) := cell_one_new _ _ _
  have H1c : Aside (∀ u ∈ [Value.int .i64 i], u.oneCell' = true) := by show ∀ u ∈ [Value.int .i64 i], u.oneCell' = true; intro u hu; simp at hu; subst hu; rfl
  have Hbase : Aside (w.heap.size ≤ (w.alloc (.cells #[.int .i64 i] 3)).drew.heap.size) := by show _ ≤ (w.alloc _).heap.size; simp
  have Hb1 : Aside (0 + 1 ≤ maxLen) := by show _ ≤ _; unfold maxLen; omega
  have Hb2 : Aside ((0 + 1) * 8 ≤ 140737488355328) := by show _ ≤ _; omega
  have Hend : Aside (∀ v' w5, w5.ownsRow w.heap.size 3 1 v' (0 + 1) ([] ++ [.int .i64 i]) → (w.alloc (.cells #[.int .i64 i] 3)).drew.grownBy w5 (Value.slice none 0 0).ownBlock → ∃ g c, v' = .slice (some ⟨g, 0, none⟩) 1 c ∧ w5.ownsRow lo 3 1 (.slice (some ⟨g, 0, none⟩) 1 c) 1 [.int .i64 i] ∧ w.heap.size ≤ g ∧ Below w.heap.size w w5 ∧
      w5.cell? ⟨cb, 2, none⟩ = some (.slice (some ⟨hb, 0, none⟩) n hc) ∧ w5.cell? ⟨hb, t, none⟩ = some (.slice none 0 0) ∧ w5.frozen? ⟨hb, t, none⟩ = false) := fun v' w5 hown hg => by
    obtain ⟨g, c, rfl⟩ := Joins.ownsRow_form hown (by omega)
    have hb5 : Below w.heap.size w w5 := (((Below.refl _ _).alloc (Nat.le_refl _) _).drew).grown hg (by show _ ≤ (w.alloc _).heap.size; simp) (fun j e => by simp [Value.ownBlock] at e)
    exact ⟨g, c, rfl, row_base hown hlo, (hown.lt g rfl).1, hb5, (hb5.cell (p := ⟨cb, 2, none⟩) hcl).trans hf, (hb5.cell (p := ⟨hb, t, none⟩) hhl).trans hcell, (hb5.frozen (p := ⟨hb, t, none⟩) hhl).trans hfz⟩
  have ht' : (t : Int) < (n : Int) := by omega
  clear hQ hi0 hz0 hz1 hz2
  conv => arg 2; whnf
  refine wp_normal ?_
  go_region_law (refine step_append_own rfl (.tmp 103) (.tmp 105) 44 rfl w.heap.size 3 i0 (.int .i64 0) 1 8 Ybaz.underlying44 Hi.out.1 Hi.out.2.1 Hi.out.2.2.1 Hi.out.2.2.2 rfl Hone.out (.slice none 0 0) 0 [] rfl Hown.out ⟨w.heap.size, 0, none⟩ 1 1 [.int .i64 i] rfl rfl Hnews.out H1c.out Hb1.out Hb2.out Hbase.out ?_; intro v' w5 hown hgrow; obtain ⟨g, c, hv, hE1, hE2, hE3, q2, qt, qf⟩ := Hend.out v' w5 hown hgrow; have HE : Aside (w5.ownsRow lo 3 1 (.slice (some ⟨g, 0, none⟩) 1 c) 1 [.int .i64 i] ∧ w.heap.size ≤ g ∧ Below w.heap.size w w5) := ⟨hE1, hE2, hE3⟩; clear hE1 hE2 hE3 hown hgrow; subst hv)
  all_goals
    exact hAQ.out _ _ _ _ _ _ _ _ _ _ _ _ _ _ _ _ _ _ _ HE.out.1 HE.out.2.1 HE.out.2.2
end Go.Proofs.YbulkcelaGreatDoor
