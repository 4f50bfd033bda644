/-
  bound: matching is called (seat b4030aZD).
-/
import Derived.Test.YbulkcelaGreatDoorBndT
namespace Go.Proofs.YbulkcelaGreatDoor
open Go.RowKit Go.MapKept Go.Lib Go.Shelf Go.Maps Go.Sort

noncomputable def bndR13 : Code := (Ybaz.f37.body.bind (regR 13)).getD .skip

set_option linter.unusedSimpArgs false in
set_option maxRecDepth 100000 in
set_option maxHeartbeats 1000000 in
theorem bnd_r13 (xb N o tb n cap : Nat) (p : Option Addr) (hp : (p = none ∧ n = 0 ∧ cap = 0) ∨ ∃ g, p = some ⟨g, 0, none⟩) (w : World) (m2 : w.drew.cell? ⟨N, o + 2, none⟩ = some (.map (some tb))) (Post : Value → World → Prop) (hcall : Calls Ybaz.prog 56 #[.pointer (some ⟨xb, 0, none⟩), .slice p 0 cap, .map (some tb)] w.drew fun e w' => ∃ v, e = .returned v ∧ Post v w') (hkeep : ∀ v w', Post v w' → w'.cell? ⟨N, o + 2, none⟩ = some (.map (some tb)))
    (df : List Deferred) (Q : Exit → Act → World → Prop) (c0 c1 c2 c3 c4 c5 c8 c10 c11 c12 c13 c14 c15 c16 c17 c18 c19 c20 c21 c22 c23 c24 c25 c26 c27 c28 c29 c30 c31 c32 c33 c34 c35 c36 c37 c38 c39 c40 c41 c42 c43 c44 c45 c46 c47 c48 c49 c50 c51 c52 c53 c54 c55 c56 c57 c58 c59 c60 c61 c62 c63 c64 c65 c66 c67 c68 c69 c70 c71 c72 c73 c74 c75 c76 c77 c78 c79 c80 c81 c82 c83 c84 c85 c86 c87 c88 c89 c90 c91 c92 c93 c94 c95 c96 c97 c98 c99 c100 c101 c102 c103 c104 c105 c106 c107 c108 c109 c110 c111 c112 c113 c114 c115 c116 c117 c118 c119 c120 c121 c122 c123 c124 c125 c126 c127 c128 c129 c130 c131 c132 c133 c134 c135 c136 c137 c138 c139 c140 c141 c142 c143 : Value) (hQ : ∀ (v : Value) (w' : World) (e57 e58 e59 e60 e61 e62 e63 e64 : Value), Post v w' → Q .normal ⟨#[c0, c1, c2, c3, c4, c5, .pointer (some ⟨xb, 0, none⟩), v, c8, .pointer (some ⟨N, o, none⟩), c10, c11, c12, c13, c14, c15, c16, c17, c18, c19, c20, c21, c22, c23, c24, c25, c26, c27, c28, c29, c30, c31, c32, c33, c34, c35, c36, c37, c38, c39, c40, c41, c42, c43, c44, c45, c46, c47, c48, c49, c50, c51, c52, c53, c54, c55, c56, e57, e58, e59, e60, e61, e62, e63, e64, c65, c66, c67, c68, c69, c70, c71, c72, c73, c74, c75, c76, c77, c78, c79, c80, c81, c82, c83, c84, c85, c86, c87, c88, c89, c90, c91, c92, c93, c94, c95, c96, c97, c98, c99, c100, c101, c102, c103, c104, c105, c106, c107, c108, c109, c110, c111, c112, c113, c114, c115, c116, c117, c118, c119, c120, c121, c122, c123, c124, c125, c126, c127, c128, c129, c130, c131, c132, c133, c134, c135, c136, c137, c138, c139, c140, c141, c142, c143], df⟩ w') :
    bndR13.wp Ybaz.prog Q ⟨#[c0, c1, c2, c3, c4, c5, .pointer (some ⟨xb, 0, none⟩), .slice p n cap, c8, .pointer (some ⟨N, o, none⟩), c10, c11, c12, c13, c14, c15, c16, c17, c18, c19, c20, c21, c22, c23, c24, c25, c26, c27, c28, c29, c30, c31, c32, c33, c34, c35, c36, c37, c38, c39, c40, c41, c42, c43, c44, c45, c46, c47, c48, c49, c50, c51, c52, c53, c54, c55, c56, c57, c58, c59, c60, c61, c62, c63, c64, c65, c66, c67, c68, c69, c70, c71, c72, c73, c74, c75, c76, c77, c78, c79, c80, c81, c82, c83, c84, c85, c86, c87, c88, c89, c90, c91, c92, c93, c94, c95, c96, c97, c98, c99, c100, c101, c102, c103, c104, c105, c106, c107, c108, c109, c110, c111, c112, c113, c114, c115, c116, c117, c118, c119, c120, c121, c122, c123, c124, c125, c126, c127, c128, c129, c130, c131, c132, c133, c134, c135, c136, c137, c138, c139, c140, c141, c142, c143], df⟩ w := by
  have hAQ : Aside (∀ (v : Value) (w' : World) (e57 e58 e59 e60 e61 e62 e63 e64 : Value), Post v w' → Q .normal ⟨#[c0, c1, c2, c3, c4, c5, .pointer (some ⟨xb, 0, none⟩), v, c8, .pointer (some ⟨N, o, none⟩), c10, c11, c12, c13, c14, c15, c16, c17, c18, c19, c20, c21, c22, c23, c24, c25, c26, c27, c28, c29, c30, c31, c32, c33, c34, c35, c36, c37, c38, c39, c40, c41, c42, c43, c44, c45, c46, c47, c48, c49, c50, c51, c52, c53, c54, c55, c56, e57, e58, e59, e60, e61, e62, e63, e64, c65, c66, c67, c68, c69, c70, c71, c72, c73, c74, c75, c76, c77, c78, c79, c80, c81, c82, c83, c84, c85, c86, c87, c88, c89, c90, c91, c92, c93, c94, c95, c96, c97, c98, c99, c100, c101, c102, c103, c104, c105, c106, c107, c108, c109, c110, c111, c112, c113, c114, c115, c116, c117, c118, c119, c120, c121, c122, c123, c124, c125, c126, c127, c128, c129, c130, c131, c132, c133, c134, c135, c136, c137, c138, c139, c140, c141, c142, c143], df⟩ w') := hQ
  clear hQ
  conv => arg 2; whnf
  rcases hp with ⟨rfl, rfl, rfl⟩ | ⟨g, rfl⟩
  all_goals
    refine wp_normal ?_
    go_region_held (fun w' => w'.cell? ⟨N, o + 2, none⟩ = some (.map (some tb))) (first | exact m2 | exact hkeep _ _ hE)
      (first | (go_at_call 56; refine hcall.mono ?_; rintro e w1 ⟨v, rfl, hE⟩))
    exact hAQ.out _ _ _ _ _ _ _ _ _ _ hE
end Go.Proofs.YbulkcelaGreatDoor
