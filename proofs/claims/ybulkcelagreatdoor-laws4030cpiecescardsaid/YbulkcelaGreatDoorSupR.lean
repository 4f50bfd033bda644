/-
  Supply: its regions that draw their order (seat b4030aZD).
-/
import Derived.Test.YbulkcelaGreatDoorSupS
import Derived.Deep.RegionLaw
namespace Go.Proofs.YbulkcelaGreatDoor
open Go.RowKit Go.MapKept Go.Lib Go.Shelf Go.Maps Go.Sort

noncomputable def supR6 : Code := (Ybaz.f9.body.bind (regR 6)).getD .skip
noncomputable def supR7 : Code := (Ybaz.f9.body.bind (regR 7)).getD .skip
noncomputable def supR18 : Code := (Ybaz.f9.body.bind (regR 18)).getD .skip
noncomputable def supR19 : Code := (Ybaz.f9.body.bind (regR 19)).getD .skip
theorem Ybaz.info64 : (Ybaz.prog.info? 64).map (fun i => (i.zero, i.size, i.bytes)) = some (some (.agg #[.int .i64 0, .float .f64 0, .int .u64 0, .int .i64 0, .pointer none, .bool false]), 6, 48) := by kernel_rfl

set_option linter.unusedSimpArgs false in
set_option maxRecDepth 100000 in
set_option maxHeartbeats 1000000 in
theorem sup_r6 (sb kd fb rb kb kc K i : Nat) (mp : Option Nat) (old : Value) (w : World) (h1 : w.cell? ⟨sb, 0, none⟩ = some (.slice (some ⟨kd, 0, none⟩) K K)) (h2 : w.cell? ⟨fb, 0, none⟩ = some (.pointer (some ⟨rb, 0, none⟩))) (h3 : w.cell? ⟨rb, 4, none⟩ = some (.slice (some ⟨kb, 0, none⟩) K kc)) (h4 : w.cell? ⟨kb, i * 2, none⟩ = some (.map mp)) (h5 : w.cell? ⟨kd, i, none⟩ = some old) (h6 : w.frozen? ⟨kd, i, none⟩ = false) (hi : i < K) (n1 : kd ≠ sb) (n2 : kd ≠ fb)
    (df : List Deferred) (Q : Exit → Act → World → Prop) (c1 c2 c3 c4 c5 c6 c8 c10 c11 c12 c13 c14 c15 c16 c17 c18 c19 c20 c21 c22 c23 c24 c25 c26 c27 c28 c29 c30 c31 c32 c33 c34 c35 c36 c37 c38 c39 c40 c41 c42 c43 c44 c45 c46 c47 c48 c49 c50 c51 c52 c53 c54 c55 c56 c57 c58 c59 c60 c61 c62 c63 c64 c65 c66 c67 c68 c69 c70 c71 c72 c73 c74 c75 c76 c77 c78 c79 c80 c81 c82 c83 c84 c85 c86 c87 c88 c89 c90 c91 c92 c93 c94 c95 c96 c97 c98 c99 c100 c101 c102 c103 c104 c105 c106 c107 c108 c109 c110 c111 c112 : Value) (hQ : ∀ (e32 e33 e34 e35 e36 e37 e38 e39 e40 e41 : Value), Q .normal ⟨#[.pointer (some ⟨fb, 0, none⟩), c1, c2, c3, c4, c5, c6, .pointer (some ⟨sb, 0, none⟩), c8, .int .i64 (i : Nat), c10, c11, c12, c13, c14, c15, c16, c17, c18, c19, c20, c21, c22, c23, c24, c25, c26, c27, c28, c29, c30, c31, e32, e33, e34, e35, e36, e37, e38, e39, e40, e41, c42, c43, c44, c45, c46, c47, c48, c49, c50, c51, c52, c53, c54, c55, c56, c57, c58, c59, c60, c61, c62, c63, c64, c65, c66, c67, c68, c69, c70, c71, c72, c73, c74, c75, c76, c77, c78, c79, c80, c81, c82, c83, c84, c85, c86, c87, c88, c89, c90, c91, c92, c93, c94, c95, c96, c97, c98, c99, c100, c101, c102, c103, c104, c105, c106, c107, c108, c109, c110, c111, c112], df⟩ (w.drew.setCell ⟨kd, i, none⟩ (.map mp))) :
    supR6.wp Ybaz.prog Q ⟨#[.pointer (some ⟨fb, 0, none⟩), c1, c2, c3, c4, c5, c6, .pointer (some ⟨sb, 0, none⟩), c8, .int .i64 (i : Nat), c10, c11, c12, c13, c14, c15, c16, c17, c18, c19, c20, c21, c22, c23, c24, c25, c26, c27, c28, c29, c30, c31, c32, c33, c34, c35, c36, c37, c38, c39, c40, c41, c42, c43, c44, c45, c46, c47, c48, c49, c50, c51, c52, c53, c54, c55, c56, c57, c58, c59, c60, c61, c62, c63, c64, c65, c66, c67, c68, c69, c70, c71, c72, c73, c74, c75, c76, c77, c78, c79, c80, c81, c82, c83, c84, c85, c86, c87, c88, c89, c90, c91, c92, c93, c94, c95, c96, c97, c98, c99, c100, c101, c102, c103, c104, c105, c106, c107, c108, c109, c110, c111, c112], df⟩ w := by
  have hAQ : Aside (∀ (e32 e33 e34 e35 e36 e37 e38 e39 e40 e41 : Value), Q .normal ⟨#[.pointer (some ⟨fb, 0, none⟩), c1, c2, c3, c4, c5, c6, .pointer (some ⟨sb, 0, none⟩), c8, .int .i64 (i : Nat), c10, c11, c12, c13, c14, c15, c16, c17, c18, c19, c20, c21, c22, c23, c24, c25, c26, c27, c28, c29, c30, c31, e32, e33, e34, e35, e36, e37, e38, e39, e40, e41, c42, c43, c44, c45, c46, c47, c48, c49, c50, c51, c52, c53, c54, c55, c56, c57, c58, c59, c60, c61, c62, c63, c64, c65, c66, c67, c68, c69, c70, c71, c72, c73, c74, c75, c76, c77, c78, c79, c80, c81, c82, c83, c84, c85, c86, c87, c88, c89, c90, c91, c92, c93, c94, c95, c96, c97, c98, c99, c100, c101, c102, c103, c104, c105, c106, c107, c108, c109, c110, c111, c112], df⟩ (w.drew.setCell ⟨kd, i, none⟩ (.map mp))) := hQ
  clear hQ
  have hcall := visit22 kb kc K rb i mp w.drew h3 hi h4
  have hi' : (i : Int) < (K : Int) := by omega
  have hS2 : (w.drew.setCell ⟨kd, i, none⟩ (.map mp)).cell? ⟨sb, 0, none⟩ = some (.slice (some ⟨kd, 0, none⟩) K K) ∧ (w.drew.setCell ⟨kd, i, none⟩ (.map mp)).cell? ⟨fb, 0, none⟩ = some (.pointer (some ⟨rb, 0, none⟩)) := by
    have hb : ∀ b o, b ≠ kd → (w.drew.setCell ⟨kd, i, none⟩ (.map mp)).cell? ⟨b, o, none⟩ = w.cell? ⟨b, o, none⟩ := fun b o hb => cell_block_eq (Below.heap_setCell _ _ _ _ hb)
    exact ⟨(hb _ _ (fun e => n1 e.symm)).trans h1, (hb _ _ (fun e => n2 e.symm)).trans h2⟩
  have hAS : Aside ((w.drew.setCell ⟨kd, i, none⟩ (.map mp)).cell? ⟨sb, 0, none⟩ = some (.slice (some ⟨kd, 0, none⟩) K K) ∧ (w.drew.setCell ⟨kd, i, none⟩ (.map mp)).cell? ⟨fb, 0, none⟩ = some (.pointer (some ⟨rb, 0, none⟩))) := hS2
  clear hS2 n1 n2 h3 h4
  conv => arg 2; whnf
  refine wp_normal ?_
  go_region_held (fun w' => w'.cell? ⟨sb, 0, none⟩ = some (.slice (some ⟨kd, 0, none⟩) K K) ∧ w'.cell? ⟨fb, 0, none⟩ = some (.pointer (some ⟨rb, 0, none⟩))) (first | exact ⟨h1, h2⟩ | exact hAS.out) (first | (go_at_call 22; refine hcall.mono ?_; rintro e w1 ⟨rfl, rfl⟩))
  exact hAQ.out _ _ _ _ _ _ _ _ _ _

set_option linter.unusedSimpArgs false in
set_option maxRecDepth 100000 in
set_option maxHeartbeats 1000000 in
theorem sup_r7 (qb base n : Nat) (x : Int) (cutv : Value) (xs : List Value) (w : World) (hS : w.cell? ⟨qb, 0, none⟩ = some (.int .u64 0) ∧ w.cell? ⟨qb, 1, none⟩ = some (.int .i64 x) ∧ w.cell? ⟨qb, 2, none⟩ = some (.pointer none)) (hown : w.ownsRow base 29 3 cutv n xs) (hbase : base ≤ w.heap.size)
    (hkeep : ∀ w' : World, w.grownBy w' cutv.ownBlock → w'.cell? ⟨qb, 0, none⟩ = some (.int .u64 0) ∧ w'.cell? ⟨qb, 1, none⟩ = some (.int .i64 x) ∧ w'.cell? ⟨qb, 2, none⟩ = some (.pointer none))
    (df : List Deferred) (Q : Exit → Act → World → Prop) (c0 c1 c2 c3 c5 c6 c7 c9 c10 c11 c12 c13 c14 c15 c16 c17 c18 c19 c20 c21 c22 c23 c24 c25 c26 c27 c28 c29 c30 c31 c32 c33 c34 c35 c36 c37 c38 c39 c40 c41 c42 c43 c44 c45 c46 c47 c48 c49 c50 c51 c52 c53 c54 c55 c56 c57 c58 c59 c60 c61 c62 c63 c64 c65 c66 c67 c68 c69 c70 c71 c72 c73 c74 c75 c76 c77 c78 c79 c80 c81 c82 c83 c84 c85 c86 c87 c88 c89 c90 c91 c92 c93 c94 c95 c96 c97 c98 c99 c100 c101 c102 c103 c104 c105 c106 c107 c108 c109 c110 c111 c112 : Value) (hQ : ∀ (g cap : Nat) (w' : World) (e42 e43 e44 e45 e46 : Value), w'.ownsRow base 29 3 (.slice (some ⟨g, 0, none⟩) 1 cap) 1 [.int .u64 0, .int .i64 x, .pointer none] → w.grownBy w' cutv.ownBlock → (cutv.ownBlock = some g ∨ w.heap.size ≤ g) → Q .normal ⟨#[c0, c1, c2, c3, .pointer (some ⟨qb, 0, none⟩), c5, c6, c7, .slice (some ⟨g, 0, none⟩) 1 cap, c9, c10, c11, c12, c13, c14, c15, c16, c17, c18, c19, c20, c21, c22, c23, c24, c25, c26, c27, c28, c29, c30, c31, c32, c33, c34, c35, c36, c37, c38, c39, c40, c41, e42, e43, e44, e45, e46, c47, c48, c49, c50, c51, c52, c53, c54, c55, c56, c57, c58, c59, c60, c61, c62, c63, c64, c65, c66, c67, c68, c69, c70, c71, c72, c73, c74, c75, c76, c77, c78, c79, c80, c81, c82, c83, c84, c85, c86, c87, c88, c89, c90, c91, c92, c93, c94, c95, c96, c97, c98, c99, c100, c101, c102, c103, c104, c105, c106, c107, c108, c109, c110, c111, c112], df⟩ w') :
    supR7.wp Ybaz.prog Q ⟨#[c0, c1, c2, c3, .pointer (some ⟨qb, 0, none⟩), c5, c6, c7, cutv, c9, c10, c11, c12, c13, c14, c15, c16, c17, c18, c19, c20, c21, c22, c23, c24, c25, c26, c27, c28, c29, c30, c31, c32, c33, c34, c35, c36, c37, c38, c39, c40, c41, c42, c43, c44, c45, c46, c47, c48, c49, c50, c51, c52, c53, c54, c55, c56, c57, c58, c59, c60, c61, c62, c63, c64, c65, c66, c67, c68, c69, c70, c71, c72, c73, c74, c75, c76, c77, c78, c79, c80, c81, c82, c83, c84, c85, c86, c87, c88, c89, c90, c91, c92, c93, c94, c95, c96, c97, c98, c99, c100, c101, c102, c103, c104, c105, c106, c107, c108, c109, c110, c111, c112], df⟩ w := by
  have hAQ : Aside (∀ (g cap : Nat) (w' : World) (e42 e43 e44 e45 e46 : Value), w'.ownsRow base 29 3 (.slice (some ⟨g, 0, none⟩) 1 cap) 1 [.int .u64 0, .int .i64 x, .pointer none] → w.grownBy w' cutv.ownBlock → (cutv.ownBlock = some g ∨ w.heap.size ≤ g) → Q .normal ⟨#[c0, c1, c2, c3, .pointer (some ⟨qb, 0, none⟩), c5, c6, c7, .slice (some ⟨g, 0, none⟩) 1 cap, c9, c10, c11, c12, c13, c14, c15, c16, c17, c18, c19, c20, c21, c22, c23, c24, c25, c26, c27, c28, c29, c30, c31, c32, c33, c34, c35, c36, c37, c38, c39, c40, c41, e42, e43, e44, e45, e46, c47, c48, c49, c50, c51, c52, c53, c54, c55, c56, c57, c58, c59, c60, c61, c62, c63, c64, c65, c66, c67, c68, c69, c70, c71, c72, c73, c74, c75, c76, c77, c78, c79, c80, c81, c82, c83, c84, c85, c86, c87, c88, c89, c90, c91, c92, c93, c94, c95, c96, c97, c98, c99, c100, c101, c102, c103, c104, c105, c106, c107, c108, c109, c110, c111, c112], df⟩ w') := hQ
  clear hQ
  have hAk : Aside (∀ w' : World, w.grownBy w' cutv.ownBlock → w'.cell? ⟨qb, 0, none⟩ = some (.int .u64 0) ∧ w'.cell? ⟨qb, 1, none⟩ = some (.int .i64 x) ∧ w'.cell? ⟨qb, 2, none⟩ = some (.pointer none)) := hkeep
  clear hkeep
  obtain ⟨i0, hi, hz0, hz1, hz2⟩ := info_parts Ybaz.info29
  have Hi : Aside (Ybaz.prog.info? 29 = some i0 ∧ i0.zero = some (tv 0) ∧ i0.size = 3 ∧ i0.bytes = 24) := ⟨hi, hz0, hz1, hz2⟩
  clear hi hz0 hz1 hz2
  have hbd : Below w.heap.size w (w.drew.alloc (.cells #[.int .u64 0, .int .i64 x, .pointer none] 29)) := ((Below.refl _ _).drew).alloc (Nat.le_refl _) _
  have Hg : Aside (w.grownBy (w.drew.alloc (.cells #[.int .u64 0, .int .i64 x, .pointer none] 29)) cutv.ownBlock) := grown_below hbd
  have Hg0 : Aside (w.grownBy (w.drew.alloc (.cells #[.int .u64 0, .int .i64 x, .pointer none] 29)) (cut0 cutv).ownBlock) := grown_below hbd
  have Hone : Aside (0 < 3) := by show 0 < 3; decide
  have Htwo : Aside (0 < 1) := by show 0 < 1; decide
  have Hzs : Aside ((tv 0).cells.size = 3) := rfl
  have Hown : Aside ((w.drew.alloc (.cells #[.int .u64 0, .int .i64 x, .pointer none] 29)).ownsRow base 29 3 (cut0 cutv) 0 []) := row_below (owns_cut0 hown) hbd
  have Hnews : Aside (∀ (j : Nat) u, ([.int .u64 0, .int .i64 x, .pointer none] : List Value)[j]? = some u → (w.drew.alloc (.cells #[.int .u64 0, .int .i64 x, .pointer none] 29)).cell? (Addr.add ⟨w.heap.size, 0, none⟩ j) = some u) := World.news_of_block (cs := #[.int .u64 0, .int .i64 x, .pointer none]) (by rw [alloc_at, if_pos (show w.heap.size = w.drew.heap.size from rfl)])
  have H1c : Aside (∀ u ∈ ([.int .u64 0, .int .i64 x, .pointer none] : List Value), u.oneCell' = true) := by show ∀ u ∈ ([.int .u64 0, .int .i64 x, .pointer none] : List Value), u.oneCell' = true; intro u hu; simp at hu; rcases hu with rfl | rfl | rfl <;> rfl
  have Hbase : Aside (base ≤ (w.drew.alloc (.cells #[.int .u64 0, .int .i64 x, .pointer none] 29)).heap.size) := by show base ≤ (World.alloc _ _).heap.size; simp; exact Nat.le_succ_of_le hbase
  have Hb1 : Aside (0 + 1 ≤ maxLen) := by show _ ≤ _; unfold maxLen; omega
  have Hb2 : Aside ((0 + 1) * 24 ≤ 140737488355328) := by show _ ≤ _; omega
  have Hc0 : Aside ((cut0 cutv).ownBlock = cutv.ownBlock) := cut0_own cutv
  have hfo := hown.2
  clear hown hbd hbase
  conv => arg 2; whnf
  rcases hfo with ⟨rfl, rfl⟩ | ⟨g0, cap0, cur0, rfl, _⟩
  all_goals
    refine wp_normal ?_
    go_region_held_law (fun w' => w'.cell? ⟨qb, 0, none⟩ = some (.int .u64 0) ∧ w'.cell? ⟨qb, 1, none⟩ = some (.int .i64 x) ∧ w'.cell? ⟨qb, 2, none⟩ = some (.pointer none)) (first | exact hS | exact hAk.out _ Hg.out | exact hAk.out _ HE.out.2.1)
      ((refine step_append_lies _ rfl (.tmp 43) (.tmp 45) 76 rfl base 29 i0 (tv 0) 3 24 Ybaz.underlying76 Hi.out.1 Hi.out.2.1 Hi.out.2.2.1 Hi.out.2.2.2 Hzs.out Hone.out (cut0 _) 0 [] rfl Hown.out ⟨w.heap.size, 0, none⟩ 1 1 [.int .u64 0, .int .i64 x, .pointer none] rfl rfl Hnews.out H1c.out Htwo.out Hb1.out Hb2.out Hbase.out _ rfl ?_; intro g cap w1 hown1 hgrow1 hat1 hlt1; rw [Hc0.out] at hgrow1 hat1; have HE : Aside (w1.ownsRow base 29 3 (.slice (some ⟨g, 0, none⟩) 1 cap) 1 [.int .u64 0, .int .i64 x, .pointer none] ∧ w.grownBy w1 (Value.ownBlock _) ∧ (Value.ownBlock _ = some g ∨ w.heap.size ≤ g)) := ⟨hown1, grown_trans Hg.out hgrow1, hat1.imp id (fun h => by rw [h]; simp)⟩; clear hown1 hgrow1 hat1 hlt1))
    exact hAQ.out _ _ _ _ _ _ _ _ HE.out.1 HE.out.2.1 HE.out.2.2

set_option linter.unusedSimpArgs false in
set_option maxRecDepth 100000 in
set_option maxHeartbeats 1000000 in
theorem sup_r18 (fb cg n cap m : Nat) (a b sp : Int) (r : Nat) (w : World) (hm : m + 1 < n) (hn : n ≤ 1000000) (hcg : cg < w.heap.size) (hfb : fb < w.heap.size) (f2 : w.cell? ⟨fb, 2, none⟩ = some (.float .f64 (fi sp)))
    (a0 : w.cell? ⟨cg, m * 3, none⟩ = some (.int .u64 0)) (a1 : w.cell? ⟨cg, m * 3 + 1, none⟩ = some (.int .i64 a)) (a2 : w.cell? ⟨cg, m * 3 + 2, none⟩ = some (.pointer none))
    (b0 : w.cell? ⟨cg, (m + 1) * 3, none⟩ = some (.int .u64 0)) (b1 : w.cell? ⟨cg, (m + 1) * 3 + 1, none⟩ = some (.int .i64 b)) (b2 : w.cell? ⟨cg, (m + 1) * 3 + 2, none⟩ = some (.pointer none))
    (x0 : -4000000000 ≤ a) (x1 : a ≤ 4000000000) (y0 : -4000000000 ≤ b) (y1 : b ≤ 4000000000) (hr : floatBits .quo .f64 (fi (b - a)) (fi sp) = some r)
    (df : List Deferred) (Q : Exit → Act → World → Prop) (c1 c2 c3 c4 c5 c6 c7 c9 c10 c11 c12 c14 c15 c16 c17 c18 c19 c20 c21 c22 c23 c24 c25 c26 c27 c28 c29 c30 c31 c32 c33 c34 c35 c36 c37 c38 c39 c40 c41 c42 c43 c44 c45 c46 c47 c48 c49 c50 c51 c52 c53 c54 c55 c56 c57 c58 c59 c60 c61 c62 c63 c64 c65 c66 c67 c68 c69 c70 c71 c72 c73 c74 c75 c76 c77 c78 c79 c80 c81 c82 c83 c84 c85 c86 c87 c88 c89 c90 c91 c92 c93 c94 c95 c96 c97 c98 c99 c100 c101 c102 c103 c104 c105 c106 c107 c108 c109 c110 c111 c112 : Value) (hQ : ∀ (w' : World) (e81 e82 e83 e84 e85 e86 e87 e88 e89 e90 e91 e92 e93 e94 e95 : Value), Lays w w' → Q .normal ⟨#[.pointer (some ⟨fb, 0, none⟩), c1, c2, c3, c4, c5, c6, c7, .slice (some ⟨cg, 0, none⟩) n cap, c9, c10, c11, c12, .int .i64 ((m : Nat) + 1 : Int), .float .f64 r, c15, c16, c17, c18, c19, c20, c21, c22, c23, c24, c25, c26, c27, c28, c29, c30, c31, c32, c33, c34, c35, c36, c37, c38, c39, c40, c41, c42, c43, c44, c45, c46, c47, c48, c49, c50, c51, c52, c53, c54, c55, c56, c57, c58, c59, c60, c61, c62, c63, c64, c65, c66, c67, c68, c69, c70, c71, c72, c73, c74, c75, c76, c77, c78, c79, c80, e81, e82, e83, e84, e85, e86, e87, e88, e89, e90, e91, e92, e93, e94, e95, c96, c97, c98, c99, c100, c101, c102, c103, c104, c105, c106, c107, c108, c109, c110, c111, c112], df⟩ w') :
    supR18.wp Ybaz.prog Q ⟨#[.pointer (some ⟨fb, 0, none⟩), c1, c2, c3, c4, c5, c6, c7, .slice (some ⟨cg, 0, none⟩) n cap, c9, c10, c11, c12, .int .i64 ((m : Nat) + 1 : Int), c14, c15, c16, c17, c18, c19, c20, c21, c22, c23, c24, c25, c26, c27, c28, c29, c30, c31, c32, c33, c34, c35, c36, c37, c38, c39, c40, c41, c42, c43, c44, c45, c46, c47, c48, c49, c50, c51, c52, c53, c54, c55, c56, c57, c58, c59, c60, c61, c62, c63, c64, c65, c66, c67, c68, c69, c70, c71, c72, c73, c74, c75, c76, c77, c78, c79, c80, c81, c82, c83, c84, c85, c86, c87, c88, c89, c90, c91, c92, c93, c94, c95, c96, c97, c98, c99, c100, c101, c102, c103, c104, c105, c106, c107, c108, c109, c110, c111, c112], df⟩ w := by
  have hAQ : Aside (∀ (w' : World) (e81 e82 e83 e84 e85 e86 e87 e88 e89 e90 e91 e92 e93 e94 e95 : Value), Lays w w' → Q .normal ⟨#[.pointer (some ⟨fb, 0, none⟩), c1, c2, c3, c4, c5, c6, c7, .slice (some ⟨cg, 0, none⟩) n cap, c9, c10, c11, c12, .int .i64 ((m : Nat) + 1 : Int), .float .f64 r, c15, c16, c17, c18, c19, c20, c21, c22, c23, c24, c25, c26, c27, c28, c29, c30, c31, c32, c33, c34, c35, c36, c37, c38, c39, c40, c41, c42, c43, c44, c45, c46, c47, c48, c49, c50, c51, c52, c53, c54, c55, c56, c57, c58, c59, c60, c61, c62, c63, c64, c65, c66, c67, c68, c69, c70, c71, c72, c73, c74, c75, c76, c77, c78, c79, c80, e81, e82, e83, e84, e85, e86, e87, e88, e89, e90, e91, e92, e93, e94, e95, c96, c97, c98, c99, c100, c101, c102, c103, c104, c105, c106, c107, c108, c109, c110, c111, c112], df⟩ w') := hQ
  clear hQ
  have mixed : Ybaz.prog.follows .mixedOrders = true := by kernel_rfl
  have hq := fun W => run_float_arith (P := Ybaz.prog) W .quo 53 .f64 _ _ _ hr
  have hsec := fun W => seconds18 a b x0 x1 y0 y1 W
  have A0 := cell_grown (a := ⟨cg, m * 3, none⟩) hcg a0
  have A1 := cell_grown (a := ⟨cg, m * 3 + 1, none⟩) hcg a1
  have A2 := cell_grown (a := ⟨cg, m * 3 + 2, none⟩) hcg a2
  have B0 := cell_grown (a := ⟨cg, (m + 1) * 3, none⟩) hcg b0
  have B1 := cell_grown (a := ⟨cg, (m + 1) * 3 + 1, none⟩) hcg b1
  have B2 := cell_grown (a := ⟨cg, (m + 1) * 3 + 2, none⟩) hcg b2
  have F2 := cell_grown (a := ⟨fb, 2, none⟩) hfb f2
  have hmi : (m : Int) + 1 < (n : Int) := by omega
  have hmi2 : (m : Int) < (n : Int) := by omega
  have hmi0 : (0 : Int) ≤ (m : Int) + 1 := by omega
  have hmt : ((m : Int) + 1).toNat = m + 1 := by omega
  have hwm : IntKind.i64.wrap (m : Int) = (m : Int) := (IntWalk.i64_left _).trans (by unfold wrap64; omega)
  clear hr
  conv => arg 2; whnf
  go_quiet_grown (first | (go_at_call 18; exact Calls.grown_of (hsec _)))
  exact hAQ.out _ _ _ _ _ _ _ _ _ _ _ _ _ _ _ _ ⟨_, _, rfl⟩

set_option linter.unusedSimpArgs false in
set_option maxRecDepth 100000 in
set_option maxHeartbeats 1000000 in
theorem sup_r19 (sb cg n cap m i k base : Nat) (a : Int) (d r t : Nat) (pv : Value) (xs : List Value) (w : World) (hm : m + 1 < n) (hn : n ≤ 1000000) (hsb : sb < w.heap.size)
    (a0 : w.cell? ⟨cg, m * 3, none⟩ = some (.int .u64 0)) (a1 : w.cell? ⟨cg, m * 3 + 1, none⟩ = some (.int .i64 a)) (a2 : w.cell? ⟨cg, m * 3 + 2, none⟩ = some (.pointer none))
    (s1 : w.cell? ⟨sb, 1, none⟩ = some pv) (hown : w.ownsRow base 64 6 pv k xs) (hbase : base ≤ w.heap.size) (hk : k ≤ 100000000) (ht : floatBits .mul .f64 d r = some t)
    (hkeep : ∀ w' : World, w.grownBy w' pv.ownBlock → w'.cell? ⟨sb, 1, none⟩ = some pv ∧ w'.frozen? ⟨sb, 1, none⟩ = false)
    (df : List Deferred) (Q : Exit → Act → World → Prop) (c0 c1 c2 c3 c4 c5 c6 c11 c12 c15 c16 c17 c18 c19 c20 c21 c22 c23 c24 c25 c26 c27 c28 c29 c30 c31 c32 c33 c34 c35 c36 c37 c38 c39 c40 c41 c42 c43 c44 c45 c46 c47 c48 c49 c50 c51 c52 c53 c54 c55 c56 c57 c58 c59 c60 c61 c62 c63 c64 c65 c66 c67 c68 c69 c70 c71 c72 c73 c74 c75 c76 c77 c78 c79 c80 c81 c82 c83 c84 c85 c86 c87 c88 c89 c90 c91 c92 c93 c94 c95 c96 c97 c98 c99 c100 c101 c102 c103 c104 c105 c106 c107 c108 c109 c110 c111 c112 : Value) (hQ : ∀ (g c' : Nat) (w' : World) (e96 e97 e98 e99 e100 e101 e102 e103 e104 e105 e106 e107 e108 e109 e110 : Value), w'.ownsRow base 64 6 (.slice (some ⟨g, 0, none⟩) (k + 1) c') (k + 1) (xs ++ [.int .i64 (i : Nat), .float .f64 t, .int .u64 0, .int .i64 a, .pointer none, .bool false]) → w.grownBy w' pv.ownBlock → Q .normal ⟨#[c0, c1, c2, c3, c4, c5, c6, .pointer (some ⟨sb, 0, none⟩), .slice (some ⟨cg, 0, none⟩) n cap, .int .i64 (i : Nat), .float .f64 d, c11, c12, .int .i64 ((m : Nat) + 1 : Int), .float .f64 r, c15, c16, c17, c18, c19, c20, c21, c22, c23, c24, c25, c26, c27, c28, c29, c30, c31, c32, c33, c34, c35, c36, c37, c38, c39, c40, c41, c42, c43, c44, c45, c46, c47, c48, c49, c50, c51, c52, c53, c54, c55, c56, c57, c58, c59, c60, c61, c62, c63, c64, c65, c66, c67, c68, c69, c70, c71, c72, c73, c74, c75, c76, c77, c78, c79, c80, c81, c82, c83, c84, c85, c86, c87, c88, c89, c90, c91, c92, c93, c94, c95, e96, e97, e98, e99, e100, e101, e102, e103, e104, e105, e106, e107, e108, e109, e110, c111, c112], df⟩ (w'.setCell ⟨sb, 1, none⟩ (.slice (some ⟨g, 0, none⟩) (k + 1) c'))) :
    supR19.wp Ybaz.prog Q ⟨#[c0, c1, c2, c3, c4, c5, c6, .pointer (some ⟨sb, 0, none⟩), .slice (some ⟨cg, 0, none⟩) n cap, .int .i64 (i : Nat), .float .f64 d, c11, c12, .int .i64 ((m : Nat) + 1 : Int), .float .f64 r, c15, c16, c17, c18, c19, c20, c21, c22, c23, c24, c25, c26, c27, c28, c29, c30, c31, c32, c33, c34, c35, c36, c37, c38, c39, c40, c41, c42, c43, c44, c45, c46, c47, c48, c49, c50, c51, c52, c53, c54, c55, c56, c57, c58, c59, c60, c61, c62, c63, c64, c65, c66, c67, c68, c69, c70, c71, c72, c73, c74, c75, c76, c77, c78, c79, c80, c81, c82, c83, c84, c85, c86, c87, c88, c89, c90, c91, c92, c93, c94, c95, c96, c97, c98, c99, c100, c101, c102, c103, c104, c105, c106, c107, c108, c109, c110, c111, c112], df⟩ w := by
  have hAQ : Aside (∀ (g c' : Nat) (w' : World) (e96 e97 e98 e99 e100 e101 e102 e103 e104 e105 e106 e107 e108 e109 e110 : Value), w'.ownsRow base 64 6 (.slice (some ⟨g, 0, none⟩) (k + 1) c') (k + 1) (xs ++ [.int .i64 (i : Nat), .float .f64 t, .int .u64 0, .int .i64 a, .pointer none, .bool false]) → w.grownBy w' pv.ownBlock → Q .normal ⟨#[c0, c1, c2, c3, c4, c5, c6, .pointer (some ⟨sb, 0, none⟩), .slice (some ⟨cg, 0, none⟩) n cap, .int .i64 (i : Nat), .float .f64 d, c11, c12, .int .i64 ((m : Nat) + 1 : Int), .float .f64 r, c15, c16, c17, c18, c19, c20, c21, c22, c23, c24, c25, c26, c27, c28, c29, c30, c31, c32, c33, c34, c35, c36, c37, c38, c39, c40, c41, c42, c43, c44, c45, c46, c47, c48, c49, c50, c51, c52, c53, c54, c55, c56, c57, c58, c59, c60, c61, c62, c63, c64, c65, c66, c67, c68, c69, c70, c71, c72, c73, c74, c75, c76, c77, c78, c79, c80, c81, c82, c83, c84, c85, c86, c87, c88, c89, c90, c91, c92, c93, c94, c95, e96, e97, e98, e99, e100, e101, e102, e103, e104, e105, e106, e107, e108, e109, e110, c111, c112], df⟩ (w'.setCell ⟨sb, 1, none⟩ (.slice (some ⟨g, 0, none⟩) (k + 1) c'))) := hQ
  clear hQ
  have hAk : Aside (∀ w' : World, w.grownBy w' pv.ownBlock → w'.cell? ⟨sb, 1, none⟩ = some pv ∧ w'.frozen? ⟨sb, 1, none⟩ = false) := hkeep
  clear hkeep
  have hq := fun W => run_float_arith (P := Ybaz.prog) W .mul 53 .f64 _ _ _ ht
  obtain ⟨i0, hi, hz0, hz1, hz2⟩ := info_parts Ybaz.info64
  have Hi : Aside (Ybaz.prog.info? 64 = some i0 ∧ i0.zero = some (.agg #[.int .i64 0, .float .f64 0, .int .u64 0, .int .i64 0, .pointer none, .bool false]) ∧ i0.size = 6 ∧ i0.bytes = 48) := ⟨hi, hz0, hz1, hz2⟩
  clear hi hz0 hz1 hz2
  have hbd : Below w.heap.size w ((w.alloc (.cells #[.int .i64 (i : Nat), .float .f64 t, .int .u64 0, .int .i64 a, .pointer none, .bool false] 64)).drew) := ((Below.refl _ _).alloc (Nat.le_refl _) _).drew
  have Hg : Aside (w.grownBy ((w.alloc (.cells #[.int .i64 (i : Nat), .float .f64 t, .int .u64 0, .int .i64 a, .pointer none, .bool false] 64)).drew) pv.ownBlock) := grown_below hbd
  have Hone : Aside (0 < 6) := by show 0 < 6; decide
  have Htwo : Aside (0 < 1) := by show 0 < 1; decide
  have Hzs : Aside ((Value.cells (.agg #[.int .i64 0, .float .f64 0, .int .u64 0, .int .i64 0, .pointer none, .bool false])).size = 6) := rfl
  have Hown : Aside (World.ownsRow ((w.alloc (.cells #[.int .i64 (i : Nat), .float .f64 t, .int .u64 0, .int .i64 a, .pointer none, .bool false] 64)).drew) base 64 6 pv k xs) := row_below hown hbd
  have Hnews : Aside (∀ (j : Nat) u, ([.int .i64 (i : Nat), .float .f64 t, .int .u64 0, .int .i64 a, .pointer none, .bool false] : List Value)[j]? = some u → World.cell? ((w.alloc (.cells #[.int .i64 (i : Nat), .float .f64 t, .int .u64 0, .int .i64 a, .pointer none, .bool false] 64)).drew) (Addr.add ⟨w.heap.size, 0, none⟩ j) = some u) := World.news_of_block (w := (w.alloc (.cells #[.int .i64 (i : Nat), .float .f64 t, .int .u64 0, .int .i64 a, .pointer none, .bool false] 64)).drew) (cs := #[.int .i64 (i : Nat), .float .f64 t, .int .u64 0, .int .i64 a, .pointer none, .bool false]) (by show (World.alloc w _).heap[w.heap.size]? = _; rw [alloc_at, if_pos rfl])
  have H1c : Aside (∀ u ∈ ([.int .i64 (i : Nat), .float .f64 t, .int .u64 0, .int .i64 a, .pointer none, .bool false] : List Value), u.oneCell' = true) := by show ∀ u ∈ ([.int .i64 (i : Nat), .float .f64 t, .int .u64 0, .int .i64 a, .pointer none, .bool false] : List Value), u.oneCell' = true; intro u hu; simp at hu; rcases hu with rfl | rfl | rfl | rfl | rfl | rfl <;> rfl
  have Hbase : Aside (base ≤ (World.heap ((w.alloc (.cells #[.int .i64 (i : Nat), .float .f64 t, .int .u64 0, .int .i64 a, .pointer none, .bool false] 64)).drew)).size) := by show base ≤ (World.alloc _ _).heap.size; simp; exact Nat.le_succ_of_le hbase
  have Hb1 : Aside (k + 1 ≤ maxLen) := by show _ ≤ _; unfold maxLen; omega
  have Hb2 : Aside ((k + 1) * 48 ≤ 140737488355328) := by show _ ≤ _; omega
  have hmi : (m : Int) + 1 < (n : Int) := by omega
  have hmi2 : (m : Int) < (n : Int) := by omega
  have hwm : IntKind.i64.wrap (m : Int) = (m : Int) := (IntWalk.i64_left _).trans (by unfold wrap64; omega)
  clear hown hbd hbase ht
  conv => arg 2; whnf
  refine wp_normal ?_
  go_region_law ((refine step_append_lies _ rfl (.tmp 97) (.tmp 108) 57 rfl base 64 i0 (.agg #[.int .i64 0, .float .f64 0, .int .u64 0, .int .i64 0, .pointer none, .bool false]) 6 48 Ybaz.underlying57 Hi.out.1 Hi.out.2.1 Hi.out.2.2.1 Hi.out.2.2.2 Hzs.out Hone.out pv k xs rfl Hown.out ⟨w.heap.size, 0, none⟩ 1 1 [.int .i64 (i : Nat), .float .f64 t, .int .u64 0, .int .i64 a, .pointer none, .bool false] rfl rfl Hnews.out H1c.out Htwo.out Hb1.out Hb2.out Hbase.out _ rfl ?_; intro g c' w1 hown1 hgrow1 hat1 hlt1; obtain ⟨q1, q2⟩ := hAk.out w1 (grown_trans Hg.out hgrow1); have HE : Aside (w1.ownsRow base 64 6 (.slice (some ⟨g, 0, none⟩) (k + 1) c') (k + 1) (xs ++ [.int .i64 (i : Nat), .float .f64 t, .int .u64 0, .int .i64 a, .pointer none, .bool false]) ∧ w.grownBy w1 pv.ownBlock) := ⟨hown1, grown_trans Hg.out hgrow1⟩; clear hown1 hgrow1 hat1 hlt1))
  all_goals
    exact hAQ.out _ _ _ _ _ _ _ _ _ _ _ _ _ _ _ _ _ _ HE.out.1 HE.out.2

end Go.Proofs.YbulkcelaGreatDoor
