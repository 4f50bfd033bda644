/-
  FromHistory: a count grows (seat b4030aZD).
-/
import Derived.Test.YbulkcelaGreatDoorHist
namespace Go.Proofs.YbulkcelaGreatDoor
open Go.RowKit Go.MapKept Go.Lib Go.Shelf Go.Maps

theorem store_float (W : World) (a : Addr) (u : Value) (r : Nat) (hc : W.cell? a = some u) (hf : W.frozen? a = false) : (store a (.float .f64 r)).run Ybaz.prog W = .ok () (W.setCell a (.float .f64 r)) := by
  rw [run_store Ybaz.prog W a _ _ rfl, hc]
  simp [hf]

noncomputable def fromR9 : Code := (Ybaz.f8.body.bind (regR 9)).getD .skip

set_option linter.unusedSimpArgs false in
set_option maxRecDepth 100000 in
set_option maxHeartbeats 1000000 in
theorem from_r9 (fb cb rb n cc j : Nat) (x c : Int) (w : World) (hf : w.cell? ⟨fb, 1, none⟩ = some (.slice (some ⟨cb, 0, none⟩) n cc)) (hj : j < n) (hcell : w.cell? ⟨cb, j, none⟩ = some (.float .f64 (fi x))) (hfz : w.frozen? ⟨cb, j, none⟩ = false) (hrb : w.cell? ⟨rb, 3, none⟩ = some (.int .i64 c)) (hx : x.natAbs < 2251799813685248) (hc : c.natAbs < 2251799813685248)
    (Q : Exit → Act → World → Prop) (c0 c1 c2 c3 c4 c5 c6 c7 c8 c10 c13 c14 c15 c16 c17 c18 c19 c20 c21 c22 c23 c24 c25 c26 c27 c28 c29 c30 c31 c32 c33 c34 c35 c36 c37 c38 c39 c40 c41 c42 c43 c44 c45 c46 c47 c48 c49 c50 c51 c52 c53 c54 c55 c56 c57 c58 c59 c60 c61 c62 c63 c64 c65 c66 c67 c68 c69 c70 c71 c72 c73 c74 c75 c76 c77 c78 c79 : Value) (hQ : ∀ (e66 e67 e68 e69 e70 e71 e72 e73 e74 e75 e76 e77 : Value), Q .normal ⟨#[c0, c1, c2, c3, c4, c5, c6, c7, c8, .pointer (some ⟨fb, 0, none⟩), c10, .pointer (some ⟨rb, 0, none⟩), .int .i64 (j : Nat), c13, c14, c15, c16, c17, c18, c19, c20, c21, c22, c23, c24, c25, c26, c27, c28, c29, c30, c31, c32, c33, c34, c35, c36, c37, c38, c39, c40, c41, c42, c43, c44, c45, c46, c47, c48, c49, c50, c51, c52, c53, c54, c55, c56, c57, c58, c59, c60, c61, c62, c63, c64, c65, e66, e67, e68, e69, e70, e71, e72, e73, e74, e75, e76, e77, c78, c79], []⟩ (w.drew.setCell ⟨cb, j, none⟩ (.float .f64 (fi (x + c))))) :
    fromR9.wp Ybaz.prog Q ⟨#[c0, c1, c2, c3, c4, c5, c6, c7, c8, .pointer (some ⟨fb, 0, none⟩), c10, .pointer (some ⟨rb, 0, none⟩), .int .i64 (j : Nat), c13, c14, c15, c16, c17, c18, c19, c20, c21, c22, c23, c24, c25, c26, c27, c28, c29, c30, c31, c32, c33, c34, c35, c36, c37, c38, c39, c40, c41, c42, c43, c44, c45, c46, c47, c48, c49, c50, c51, c52, c53, c54, c55, c56, c57, c58, c59, c60, c61, c62, c63, c64, c65, c66, c67, c68, c69, c70, c71, c72, c73, c74, c75, c76, c77, c78, c79], []⟩ w := by
  have hAQ : Aside (∀ (e66 e67 e68 e69 e70 e71 e72 e73 e74 e75 e76 e77 : Value), Q .normal ⟨#[c0, c1, c2, c3, c4, c5, c6, c7, c8, .pointer (some ⟨fb, 0, none⟩), c10, .pointer (some ⟨rb, 0, none⟩), .int .i64 (j : Nat), c13, c14, c15, c16, c17, c18, c19, c20, c21, c22, c23, c24, c25, c26, c27, c28, c29, c30, c31, c32, c33, c34, c35, c36, c37, c38, c39, c40, c41, c42, c43, c44, c45, c46, c47, c48, c49, c50, c51, c52, c53, c54, c55, c56, c57, c58, c59, c60, c61, c62, c63, c64, c65, e66, e67, e68, e69, e70, e71, e72, e73, e74, e75, e76, e77, c78, c79], []⟩ (w.drew.setCell ⟨cb, j, none⟩ (.float .f64 (fi (x + c))))) := hQ
  have hadd := fun W => run_float_arith (P := Ybaz.prog) W .add 53 .f64 _ _ _ (fi_add x c hx hc)
  have hadd' : ∀ W, (binOp .add 53 (.float .f64 (fi x)) (.float .f64 (floatOfInt .f64 c))).run Ybaz.prog W = .ok (.float .f64 (fi (x + c))) W := hadd
  have hst := store_float w.drew ⟨cb, j, none⟩ (.float .f64 (fi x)) (fi (x + c)) hcell hfz
  have hj' : (j : Int) < (n : Int) := by omega
  clear hQ hadd hx hc
  conv => arg 2; whnf
  refine wp_normal ?_
  go_region
  all_goals
    exact hAQ.out _ _ _ _ _ _ _ _ _ _ _ _
end Go.Proofs.YbulkcelaGreatDoor
