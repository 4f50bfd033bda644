/-
  (*Kinds).Of: the regions that write the key's bytes (seat b4030aZD).
-/
import Derived.Test.YbulkcelaGreatDoorOfD
namespace Go.Proofs.YbulkcelaGreatDoor
open Go.RowKit Go.MapKept Go.Lib Go.Shelf Go.Maps

/-- While the key is written. -/
structure KeySt (w0 w : World) (b0 len N pb : Nat) (V : Nat → Nat) (ks : List Int) (vs : Nat → Value) (nv fv kv : Value) (p : Option Addr) (n c : Nat) (xs : List Value) : Prop where
  ks : Ks w b0 len N V (idxEnts ks) ks vs nv fv kv (.slice p n c)
  row : w.ownsRow (b0 + 3) 5 1 (.slice p n c) n xs
  kept : Kept (b0 + 1) w0 w
  pb : w.heap[pb]? = some (.cells #[.pointer (some ⟨b0 + 2, 0, none⟩)] 69 (0, 0))

/-- A region, by its number. -/
def regR (n : Nat) : Code → Option Code
  | .region k o d => match k == n with
    | true => some (.region k o d)
    | false => none
  | .seq a b => match regR n a with
    | some c => some c
    | none => regR n b
  | .cond _ a b => match regR n a with
    | some c => some c
    | none => regR n b
  | .block _ c => regR n c
  | .scope c => regR n c
  | .loop c => regR n c
  | _ => none

section
variable {w0 w w' : World} {b0 len N pb : Nat} {V : Nat → Nat} {ks : List Int} {vs : Nat → Value} {nv fv kv : Value} {p : Option Addr} {n c : Nat} {xs ys : List Value}

/-- The key has grown; it is stored. -/
theorem KeySt.step {v' : Value} (h : KeySt w0 w b0 len N pb V ks vs nv fv kv p n c xs) (hw : Below w.heap.size w w') {w2 : World} (hg : w'.grownBy w2 (Value.slice p n c).ownBlock) {m : Nat} (hrow : w2.ownsRow (b0 + 3) 5 1 v' m ys) :
    ∃ p' c', v' = .slice p' m c' ∧ w2.cell? ⟨pb, 0, none⟩ = some (.pointer (some ⟨b0 + 2, 0, none⟩)) ∧ w2.cell? ⟨b0 + 2, 6, none⟩ = some (.slice p n c) ∧ w2.frozen? ⟨b0 + 2, 6, none⟩ = false ∧
      KeySt w0 (w2.setCell ⟨b0 + 2, 6, none⟩ (.slice p' m c')) b0 len N pb V ks vs nv fv kv p' m c' ys := by
  obtain ⟨hKs, hr, hk, hpb⟩ := h
  have hlo := hKs.lo
  have hK1 := hKs.later hw
  have hr1 := row_below hr hw
  have hs := hw.size
  have hpl := (Array.getElem?_eq_some_iff.1 hpb).1
  have hpb1 := (hw.block pb hpl).trans hpb
  have hK2 := hK1.grown hr1 (by decide) hg
  have hnp : (Value.slice p n c).ownBlock ≠ some pb := fun e => by
    obtain ⟨_, cur, hc⟩ := own_block hr1 e
    rw [hpb1] at hc; cases hc
  have hpb2 := (hg.block pb (by omega) (fun e => hnp e.symm)).trans hpb1
  obtain ⟨p', c', rfl⟩ := own_form hrow
  have hne : pb ≠ b0 + 2 := fun e => by
    subst e
    rw [hKs.box] at hpb; cases hpb
  refine ⟨p', c', rfl, Joins.cell_of_block hpb2 0, Joins.cell_of_block hK2.box 6, Joins.unfrozen_of_block hK2.box 6, hK2.setKey _, row_set hrow (by omega), ?_, (Below.heap_setCell _ _ _ _ hne).trans hpb2⟩
  exact ((hk.trans (Kept.later hw (by omega))).trans (Kept.grown hr1 (.inl rfl) hg (by omega) (by omega))).trans (Kept.setRec _ _ hK2.box (by omega))

theorem KeySt.cells (h : KeySt w0 w b0 len N pb V ks vs nv fv kv p n c xs) : w.cell? ⟨pb, 0, none⟩ = some (.pointer (some ⟨b0 + 2, 0, none⟩)) ∧ w.cell? ⟨b0 + 2, 6, none⟩ = some (.slice p n c) ∧ w.frozen? ⟨b0 + 2, 6, none⟩ = false :=
  ⟨Joins.cell_of_block h.pb 0, Joins.cell_of_block h.ks.box 6, Joins.unfrozen_of_block h.ks.box 6⟩
end

theorem Ybaz.info5' : (Ybaz.prog.info? 5).map (fun i => (i.zero, i.size, i.bytes)) = some (some (.int .u8 0), 1, 1) := by kernel_rfl

/-- 'append(b, s...)' of a string, as one step of a region that draws its order. -/
theorem step_append_str {P : Program} {ops : Array Oper} {o : Oper} {a : Act} {w : World} {K : Act → World → Prop} {Q : Exit → Act → World → Prop} {E : Prop}
    (hg : o.guard = none) (sl x : Operand) (t u : TypeId) (hop : o.op = Op.call { callee := Callee.builtin Builtin.append, args := #[sl, x], argTypes := #[t, u] })
    (base : Nat) (e : TypeId) (i : TypeInfo) (ht : P.underlying t = some (.slice e)) (hu : P.underlying u = some .string) (hi : P.info? e = some i) (hz : i.zero = some (.int .u8 0)) (hsize : i.size = 1) (hby : i.bytes = 1)
    (v : Value) (n : Nat) (xs : List Value) (hs : a.eval sl = v) (hown : w.ownsRow base e 1 v n xs) (s : ByteArray) (hx : a.eval x = .string s) (h63 : n + s.size ≤ maxLen) (hbytes : n + s.size ≤ 140737488355328) (hbase : base ≤ w.heap.size)
    (hK : ∀ v' w', w'.ownsRow base e 1 v' (n + s.size) (xs ++ strCells s) → w.grownBy w' v.ownBlock → K (a.put o.dst v') w') :
    if Region.wanted o (yielded ops a.tmps) = true then Oper.wp P o a w K Q else E := by
  have hw : Region.wanted o (yielded ops a.tmps) = true := by simp [Region.wanted, hg]
  rw [if_pos hw]
  obtain ⟨v', w', hrun, r1, r2, _⟩ := run_append_own_string (P := P) w base t u o.type e i ht hu hi hz hsize hby v n xs hown s h63 hbytes hbase
  unfold Oper.wp
  simp [execOp, hop, resolve, invoke, builtin, hs, hx, hrun, Result.andThen]
  exact hK v' w' r1 r2

noncomputable def ofR11 : Code := (Ybaz.f21.body.bind (regR 11)).getD .skip

set_option linter.unusedSimpArgs false in
set_option maxRecDepth 100000 in
set_option maxHeartbeats 1000000 in
theorem of_r11 (b0 len N pb n c : Nat) (p : Option Addr) (V : Nat → Nat) (ks : List Int) (vs : Nat → Value) (nv fv kv : Value) (xs : List Value) (s : ByteArray) (hs : s.size = 1) (w0 w : World) (h : KeySt w0 w b0 len N pb V ks vs nv fv kv p n c xs) (hn : n ≤ 100)
    (Q : Exit → Act → World → Prop) (c0 c1 c3 c4 c5 c6 c7 c8 c9 c11 c12 c13 c14 c15 c16 c17 c18 c19 c20 c21 c22 c23 c24 c25 c26 c27 c28 c29 c30 c31 c32 c33 c34 c35 c36 c37 c38 c39 c40 c41 c42 c43 c44 c45 c46 c47 c48 c49 c50 c51 c52 c53 c54 c55 c56 c57 c58 c59 c60 c61 c62 c63 c64 c65 c66 c67 c68 c69 c70 c71 c72 c73 c74 c75 c76 c77 c78 c79 c80 c81 c82 c83 c84 c85 c86 c87 c88 c89 c90 c91 c92 c93 c94 c95 c96 c97 c98 c99 c100 c101 c102 c103 c104 c105 c106 c107 c108 c109 c110 c111 c112 c113 c114 c115 c116 c117 c118 c119 c120 c121 c122 c123 c124 c125 c126 c127 c128 c129 c130 c131 : Value) (hQ : ∀ (w' : World) (p' : Option Addr) (c' : Nat) (e48 e49 e50 e51 e52 e53 e54 e55 e56 e57 : Value), KeySt w0 w' b0 len N pb V ks vs nv fv kv p' (n + 1) c' (xs ++ [.int .u8 49]) → Q .normal ⟨#[c0, c1, .pointer (some ⟨pb, 0, none⟩), c3, c4, c5, c6, c7, c8, c9, .string s, c11, c12, c13, c14, c15, c16, c17, c18, c19, c20, c21, c22, c23, c24, c25, c26, c27, c28, c29, c30, c31, c32, c33, c34, c35, c36, c37, c38, c39, c40, c41, c42, c43, c44, c45, c46, c47, e48, e49, e50, e51, e52, e53, e54, e55, e56, e57, c58, c59, c60, c61, c62, c63, c64, c65, c66, c67, c68, c69, c70, c71, c72, c73, c74, c75, c76, c77, c78, c79, c80, c81, c82, c83, c84, c85, c86, c87, c88, c89, c90, c91, c92, c93, c94, c95, c96, c97, c98, c99, c100, c101, c102, c103, c104, c105, c106, c107, c108, c109, c110, c111, c112, c113, c114, c115, c116, c117, c118, c119, c120, c121, c122, c123, c124, c125, c126, c127, c128, c129, c130, c131], []⟩ w') :
    ofR11.wp Ybaz.prog Q ⟨#[c0, c1, .pointer (some ⟨pb, 0, none⟩), c3, c4, c5, c6, c7, c8, c9, .string s, c11, c12, c13, c14, c15, c16, c17, c18, c19, c20, c21, c22, c23, c24, c25, c26, c27, c28, c29, c30, c31, c32, c33, c34, c35, c36, c37, c38, c39, c40, c41, c42, c43, c44, c45, c46, c47, c48, c49, c50, c51, c52, c53, c54, c55, c56, c57, c58, c59, c60, c61, c62, c63, c64, c65, c66, c67, c68, c69, c70, c71, c72, c73, c74, c75, c76, c77, c78, c79, c80, c81, c82, c83, c84, c85, c86, c87, c88, c89, c90, c91, c92, c93, c94, c95, c96, c97, c98, c99, c100, c101, c102, c103, c104, c105, c106, c107, c108, c109, c110, c111, c112, c113, c114, c115, c116, c117, c118, c119, c120, c121, c122, c123, c124, c125, c126, c127, c128, c129, c130, c131], []⟩ w := by
  have hAQ : Aside (∀ (w' : World) (p' : Option Addr) (c' : Nat) (e48 e49 e50 e51 e52 e53 e54 e55 e56 e57 : Value), KeySt w0 w' b0 len N pb V ks vs nv fv kv p' (n + 1) c' (xs ++ [.int .u8 49]) → Q .normal ⟨#[c0, c1, .pointer (some ⟨pb, 0, none⟩), c3, c4, c5, c6, c7, c8, c9, .string s, c11, c12, c13, c14, c15, c16, c17, c18, c19, c20, c21, c22, c23, c24, c25, c26, c27, c28, c29, c30, c31, c32, c33, c34, c35, c36, c37, c38, c39, c40, c41, c42, c43, c44, c45, c46, c47, e48, e49, e50, e51, e52, e53, e54, e55, e56, e57, c58, c59, c60, c61, c62, c63, c64, c65, c66, c67, c68, c69, c70, c71, c72, c73, c74, c75, c76, c77, c78, c79, c80, c81, c82, c83, c84, c85, c86, c87, c88, c89, c90, c91, c92, c93, c94, c95, c96, c97, c98, c99, c100, c101, c102, c103, c104, c105, c106, c107, c108, c109, c110, c111, c112, c113, c114, c115, c116, c117, c118, c119, c120, c121, c122, c123, c124, c125, c126, c127, c128, c129, c130, c131], []⟩ w') := hQ
  have hA : Aside (KeySt w0 w b0 len N pb V ks vs nv fv kv p n c xs) := h
  obtain ⟨p0, b6, f6⟩ := h.cells
  have hlo := h.ks.lo
  have hcall := app33 (b0 + 3) n (.slice p n c) xs w.drew hA.out.row (by omega) (by show _ ≤ w.heap.size; omega)
  have hbd : Below w.heap.size w w.drew := (Below.refl _ _).drew
  clear hQ h
  conv => arg 2; whnf
  refine wp_normal ?_
  go_region_with (go_at_call 33; refine hcall.mono ?_; rintro e w2 ⟨v2, rfl, hown, hgrow⟩; obtain ⟨p', c', hv, q0, q6, qf, hE⟩ := hA.out.step hbd hgrow hown; have HE : Aside (KeySt w0 (w2.setCell ⟨b0 + 2, 6, none⟩ (.slice p' (n + 1) c')) b0 len N pb V ks vs nv fv kv p' (n + 1) c' (xs ++ [.int .u8 49])) := hE; clear hE hown hgrow; subst hv)
  all_goals
    exact hAQ.out _ _ _ _ _ _ _ _ _ _ _ _ _ HE.out

noncomputable def ofR12 : Code := (Ybaz.f21.body.bind (regR 12)).getD .skip

set_option linter.unusedSimpArgs false in
set_option maxRecDepth 100000 in
set_option maxHeartbeats 1000000 in
theorem of_r12 (b0 len N pb n c : Nat) (p : Option Addr) (V : Nat → Nat) (ks : List Int) (vs : Nat → Value) (nv fv kv : Value) (xs : List Value) (w0 w : World) (h : KeySt w0 w b0 len N pb V ks vs nv fv kv p n c xs) (hn : n ≤ 100)
    (Q : Exit → Act → World → Prop) (c0 c1 c3 c4 c5 c6 c7 c8 c9 c10 c11 c12 c13 c14 c15 c16 c17 c18 c19 c20 c21 c22 c23 c24 c25 c26 c27 c28 c29 c30 c31 c32 c33 c34 c35 c36 c37 c38 c39 c40 c41 c42 c43 c44 c45 c46 c47 c48 c49 c50 c51 c52 c53 c54 c55 c56 c57 c58 c59 c60 c61 c62 c63 c64 c65 c66 c67 c68 c69 c70 c71 c72 c73 c74 c75 c76 c77 c78 c79 c80 c81 c82 c83 c84 c85 c86 c87 c88 c89 c90 c91 c92 c93 c94 c95 c96 c97 c98 c99 c100 c101 c102 c103 c104 c105 c106 c107 c108 c109 c110 c111 c112 c113 c114 c115 c116 c117 c118 c119 c120 c121 c122 c123 c124 c125 c126 c127 c128 c129 c130 c131 : Value) (hQ : ∀ (w' : World) (p' : Option Addr) (c' : Nat) (e58 e59 e60 e61 e62 e63 e64 e65 e66 : Value), KeySt w0 w' b0 len N pb V ks vs nv fv kv p' (n + 1) c' (xs ++ [.int .u8 58]) → Q .normal ⟨#[c0, c1, .pointer (some ⟨pb, 0, none⟩), c3, c4, c5, c6, c7, c8, c9, c10, c11, c12, c13, c14, c15, c16, c17, c18, c19, c20, c21, c22, c23, c24, c25, c26, c27, c28, c29, c30, c31, c32, c33, c34, c35, c36, c37, c38, c39, c40, c41, c42, c43, c44, c45, c46, c47, c48, c49, c50, c51, c52, c53, c54, c55, c56, c57, e58, e59, e60, e61, e62, e63, e64, e65, e66, c67, c68, c69, c70, c71, c72, c73, c74, c75, c76, c77, c78, c79, c80, c81, c82, c83, c84, c85, c86, c87, c88, c89, c90, c91, c92, c93, c94, c95, c96, c97, c98, c99, c100, c101, c102, c103, c104, c105, c106, c107, c108, c109, c110, c111, c112, c113, c114, c115, c116, c117, c118, c119, c120, c121, c122, c123, c124, c125, c126, c127, c128, c129, c130, c131], []⟩ w') :
    ofR12.wp Ybaz.prog Q ⟨#[c0, c1, .pointer (some ⟨pb, 0, none⟩), c3, c4, c5, c6, c7, c8, c9, c10, c11, c12, c13, c14, c15, c16, c17, c18, c19, c20, c21, c22, c23, c24, c25, c26, c27, c28, c29, c30, c31, c32, c33, c34, c35, c36, c37, c38, c39, c40, c41, c42, c43, c44, c45, c46, c47, c48, c49, c50, c51, c52, c53, c54, c55, c56, c57, c58, c59, c60, c61, c62, c63, c64, c65, c66, c67, c68, c69, c70, c71, c72, c73, c74, c75, c76, c77, c78, c79, c80, c81, c82, c83, c84, c85, c86, c87, c88, c89, c90, c91, c92, c93, c94, c95, c96, c97, c98, c99, c100, c101, c102, c103, c104, c105, c106, c107, c108, c109, c110, c111, c112, c113, c114, c115, c116, c117, c118, c119, c120, c121, c122, c123, c124, c125, c126, c127, c128, c129, c130, c131], []⟩ w := by
  have hAQ : Aside (∀ (w' : World) (p' : Option Addr) (c' : Nat) (e58 e59 e60 e61 e62 e63 e64 e65 e66 : Value), KeySt w0 w' b0 len N pb V ks vs nv fv kv p' (n + 1) c' (xs ++ [.int .u8 58]) → Q .normal ⟨#[c0, c1, .pointer (some ⟨pb, 0, none⟩), c3, c4, c5, c6, c7, c8, c9, c10, c11, c12, c13, c14, c15, c16, c17, c18, c19, c20, c21, c22, c23, c24, c25, c26, c27, c28, c29, c30, c31, c32, c33, c34, c35, c36, c37, c38, c39, c40, c41, c42, c43, c44, c45, c46, c47, c48, c49, c50, c51, c52, c53, c54, c55, c56, c57, e58, e59, e60, e61, e62, e63, e64, e65, e66, c67, c68, c69, c70, c71, c72, c73, c74, c75, c76, c77, c78, c79, c80, c81, c82, c83, c84, c85, c86, c87, c88, c89, c90, c91, c92, c93, c94, c95, c96, c97, c98, c99, c100, c101, c102, c103, c104, c105, c106, c107, c108, c109, c110, c111, c112, c113, c114, c115, c116, c117, c118, c119, c120, c121, c122, c123, c124, c125, c126, c127, c128, c129, c130, c131], []⟩ w') := hQ
  have hA : Aside (KeySt w0 w b0 len N pb V ks vs nv fv kv p n c xs) := h
  obtain ⟨p0, b6, f6⟩ := h.cells
  have hlo := h.ks.lo
  obtain ⟨i0, hi, hz0, hz1, hz2⟩ := info_parts Ybaz.info5'
  have Hi : Aside (Ybaz.prog.info? 5 = some i0 ∧ i0.zero = some (.int .u8 0) ∧ i0.size = 1 ∧ i0.bytes = 1) := ⟨hi, hz0, hz1, hz2⟩
  clear hi hz0 hz1 hz2
  have hpl : pb < w.heap.size := cell_lt p0
  have hbd : Below w.heap.size w (w.alloc (.cells #[.int .u8 58] 5)).drew := ((Below.refl _ _).alloc (Nat.le_refl _) _).drew
  have Hone : Aside (0 < 1) := by show 0 < 1; decide
  have Hown : Aside ((w.alloc (.cells #[.int .u8 58] 5)).drew.ownsRow (b0 + 3) 5 1 (.slice p n c) n xs) := row_below hA.out.row hbd
  have Hnews : Aside (∀ (j : Nat) u, [Value.int .u8 58][j]? = some u → (w.alloc (.cells #[.int .u8 58] 5)).drew.cell? (Addr.add ⟨w.heap.size, 0, none⟩ j) = some u) := cell_one_new _ _ _
  have H1c : Aside (∀ u ∈ [Value.int .u8 58], u.oneCell' = true) := by show ∀ u ∈ [Value.int .u8 58], u.oneCell' = true; intro u hu; simp at hu; subst hu; rfl
  have Hbase : Aside (b0 + 3 ≤ (w.alloc (.cells #[.int .u8 58] 5)).drew.heap.size) := by show b0 + 3 ≤ (w.alloc _).heap.size; simp; omega
  have Hb1 : Aside (n + 1 ≤ maxLen) := by show _ ≤ _; unfold maxLen; omega
  have Hb2 : Aside ((n + 1) * 1 ≤ 140737488355328) := by show _ ≤ _; omega
  clear hQ h
  conv => arg 2; whnf
  refine wp_normal ?_
  go_region_law (refine step_append_own rfl (.tmp 62) (.tmp 63) 88 rfl (b0 + 3) 5 i0 (.int .u8 0) 1 1 Ybaz.underlying88 Hi.out.1 Hi.out.2.1 Hi.out.2.2.1 Hi.out.2.2.2 rfl Hone.out (.slice p n c) n xs rfl Hown.out ⟨w.heap.size, 0, none⟩ 1 1 [.int .u8 58] rfl rfl Hnews.out H1c.out Hb1.out Hb2.out Hbase.out ?_; intro v2 w2 hown hgrow; obtain ⟨p', c', hv, q0, q6, qf, hE⟩ := hA.out.step hbd hgrow hown; have HE : Aside (KeySt w0 (w2.setCell ⟨b0 + 2, 6, none⟩ (.slice p' (n + 1) c')) b0 len N pb V ks vs nv fv kv p' (n + 1) c' (xs ++ [.int .u8 58])) := hE; clear hE hown hgrow; subst hv)
  all_goals
    exact hAQ.out _ _ _ _ _ _ _ _ _ _ _ _ HE.out

noncomputable def ofR13 : Code := (Ybaz.f21.body.bind (regR 13)).getD .skip

set_option linter.unusedSimpArgs false in
set_option maxRecDepth 100000 in
set_option maxHeartbeats 1000000 in
theorem of_r13 (b0 len N pb n c : Nat) (p : Option Addr) (V : Nat → Nat) (ks : List Int) (vs : Nat → Value) (nv fv kv : Value) (xs : List Value) (s : ByteArray) (hs : s.size = 1) (w0 w : World) (h : KeySt w0 w b0 len N pb V ks vs nv fv kv p n c xs) (hn : n ≤ 100)
    (Q : Exit → Act → World → Prop) (c0 c1 c3 c4 c5 c6 c7 c8 c9 c11 c12 c13 c14 c15 c16 c17 c18 c19 c20 c21 c22 c23 c24 c25 c26 c27 c28 c29 c30 c31 c32 c33 c34 c35 c36 c37 c38 c39 c40 c41 c42 c43 c44 c45 c46 c47 c48 c49 c50 c51 c52 c53 c54 c55 c56 c57 c58 c59 c60 c61 c62 c63 c64 c65 c66 c67 c68 c69 c70 c71 c72 c73 c74 c75 c76 c77 c78 c79 c80 c81 c82 c83 c84 c85 c86 c87 c88 c89 c90 c91 c92 c93 c94 c95 c96 c97 c98 c99 c100 c101 c102 c103 c104 c105 c106 c107 c108 c109 c110 c111 c112 c113 c114 c115 c116 c117 c118 c119 c120 c121 c122 c123 c124 c125 c126 c127 c128 c129 c130 c131 : Value) (hQ : ∀ (w' : World) (p' : Option Addr) (c' : Nat) (e67 e68 e69 e70 e71 e72 e73 e74 e75 : Value), KeySt w0 w' b0 len N pb V ks vs nv fv kv p' (n + s.size) c' (xs ++ strCells s) → Q .normal ⟨#[c0, c1, .pointer (some ⟨pb, 0, none⟩), c3, c4, c5, c6, c7, c8, c9, .string s, c11, c12, c13, c14, c15, c16, c17, c18, c19, c20, c21, c22, c23, c24, c25, c26, c27, c28, c29, c30, c31, c32, c33, c34, c35, c36, c37, c38, c39, c40, c41, c42, c43, c44, c45, c46, c47, c48, c49, c50, c51, c52, c53, c54, c55, c56, c57, c58, c59, c60, c61, c62, c63, c64, c65, c66, e67, e68, e69, e70, e71, e72, e73, e74, e75, c76, c77, c78, c79, c80, c81, c82, c83, c84, c85, c86, c87, c88, c89, c90, c91, c92, c93, c94, c95, c96, c97, c98, c99, c100, c101, c102, c103, c104, c105, c106, c107, c108, c109, c110, c111, c112, c113, c114, c115, c116, c117, c118, c119, c120, c121, c122, c123, c124, c125, c126, c127, c128, c129, c130, c131], []⟩ w') :
    ofR13.wp Ybaz.prog Q ⟨#[c0, c1, .pointer (some ⟨pb, 0, none⟩), c3, c4, c5, c6, c7, c8, c9, .string s, c11, c12, c13, c14, c15, c16, c17, c18, c19, c20, c21, c22, c23, c24, c25, c26, c27, c28, c29, c30, c31, c32, c33, c34, c35, c36, c37, c38, c39, c40, c41, c42, c43, c44, c45, c46, c47, c48, c49, c50, c51, c52, c53, c54, c55, c56, c57, c58, c59, c60, c61, c62, c63, c64, c65, c66, c67, c68, c69, c70, c71, c72, c73, c74, c75, c76, c77, c78, c79, c80, c81, c82, c83, c84, c85, c86, c87, c88, c89, c90, c91, c92, c93, c94, c95, c96, c97, c98, c99, c100, c101, c102, c103, c104, c105, c106, c107, c108, c109, c110, c111, c112, c113, c114, c115, c116, c117, c118, c119, c120, c121, c122, c123, c124, c125, c126, c127, c128, c129, c130, c131], []⟩ w := by
  have hAQ : Aside (∀ (w' : World) (p' : Option Addr) (c' : Nat) (e67 e68 e69 e70 e71 e72 e73 e74 e75 : Value), KeySt w0 w' b0 len N pb V ks vs nv fv kv p' (n + s.size) c' (xs ++ strCells s) → Q .normal ⟨#[c0, c1, .pointer (some ⟨pb, 0, none⟩), c3, c4, c5, c6, c7, c8, c9, .string s, c11, c12, c13, c14, c15, c16, c17, c18, c19, c20, c21, c22, c23, c24, c25, c26, c27, c28, c29, c30, c31, c32, c33, c34, c35, c36, c37, c38, c39, c40, c41, c42, c43, c44, c45, c46, c47, c48, c49, c50, c51, c52, c53, c54, c55, c56, c57, c58, c59, c60, c61, c62, c63, c64, c65, c66, e67, e68, e69, e70, e71, e72, e73, e74, e75, c76, c77, c78, c79, c80, c81, c82, c83, c84, c85, c86, c87, c88, c89, c90, c91, c92, c93, c94, c95, c96, c97, c98, c99, c100, c101, c102, c103, c104, c105, c106, c107, c108, c109, c110, c111, c112, c113, c114, c115, c116, c117, c118, c119, c120, c121, c122, c123, c124, c125, c126, c127, c128, c129, c130, c131], []⟩ w') := hQ
  have hA : Aside (KeySt w0 w b0 len N pb V ks vs nv fv kv p n c xs) := h
  obtain ⟨p0, b6, f6⟩ := h.cells
  have hlo := h.ks.lo
  obtain ⟨i0, hi, hz0, hz1, hz2⟩ := info_parts Ybaz.info5'
  have Hi : Aside (Ybaz.prog.info? 5 = some i0 ∧ i0.zero = some (.int .u8 0) ∧ i0.size = 1 ∧ i0.bytes = 1) := ⟨hi, hz0, hz1, hz2⟩
  clear hi hz0 hz1 hz2
  have hbd : Below w.heap.size w w.drew := (Below.refl _ _).drew
  have Hown : Aside (w.drew.ownsRow (b0 + 3) 5 1 (.slice p n c) n xs) := hA.out.row
  have Hbase : Aside (b0 + 3 ≤ w.drew.heap.size) := by show b0 + 3 ≤ w.heap.size; omega
  have Hb1 : Aside (n + s.size ≤ maxLen) := by show _ ≤ _; unfold maxLen; omega
  have Hb2 : Aside (n + s.size ≤ 140737488355328) := by show _ ≤ _; omega
  clear hs
  clear hQ h
  conv => arg 2; whnf
  refine wp_normal ?_
  go_region_law (refine step_append_str rfl (.tmp 71) (.tmp 72) 88 9 rfl (b0 + 3) 5 i0 Ybaz.underlying88 Ybaz.underlying9 Hi.out.1 Hi.out.2.1 Hi.out.2.2.1 Hi.out.2.2.2 (.slice p n c) n xs rfl Hown.out s rfl Hb1.out Hb2.out Hbase.out ?_; intro v2 w2 hown hgrow; obtain ⟨p', c', hv, q0, q6, qf, hE⟩ := hA.out.step hbd hgrow hown; have HE : Aside (KeySt w0 (w2.setCell ⟨b0 + 2, 6, none⟩ (.slice p' (n + s.size) c')) b0 len N pb V ks vs nv fv kv p' (n + s.size) c' (xs ++ strCells s)) := hE; clear hE hown hgrow; subst hv)
  all_goals
    exact hAQ.out _ _ _ _ _ _ _ _ _ _ _ _ HE.out

noncomputable def ofR1 : Code := (Ybaz.f21.body.bind (regR 1)).getD .skip

set_option linter.unusedSimpArgs false in
set_option maxRecDepth 100000 in
set_option maxHeartbeats 1000000 in
theorem of_r1 (b0 len N pb n c : Nat) (p : Option Addr) (V : Nat → Nat) (ks : List Int) (vs : Nat → Value) (nv fv kv : Value) (xs : List Value) (w0 w : World) (h : KeySt w0 w b0 len N pb V ks vs nv fv kv p n c xs) (hn : n ≤ 100)
    (Q : Exit → Act → World → Prop) (c0 c1 c3 c4 c5 c6 c7 c8 c9 c10 c11 c12 c13 c14 c15 c16 c17 c18 c19 c20 c21 c22 c23 c24 c25 c26 c27 c28 c29 c30 c31 c32 c33 c34 c35 c36 c37 c38 c39 c40 c41 c42 c43 c44 c45 c46 c47 c48 c49 c50 c51 c52 c53 c54 c55 c56 c57 c58 c59 c60 c61 c62 c63 c64 c65 c66 c67 c68 c69 c70 c71 c72 c73 c74 c75 c76 c77 c78 c79 c80 c81 c82 c83 c84 c85 c86 c87 c88 c89 c90 c91 c92 c93 c94 c95 c96 c97 c98 c99 c100 c101 c102 c103 c104 c105 c106 c107 c108 c109 c110 c111 c112 c113 c114 c115 c116 c117 c118 c119 c120 c121 c122 c123 c124 c125 c126 c127 c128 c129 c130 c131 : Value) (hQ : ∀ (w' : World) (p' : Option Addr) (c' : Nat) (e14 e15 e16 e17 e18 e19 e20 e21 : Value), KeySt w0 w' b0 len N pb V ks vs nv fv kv p' (0) c' (([] : List Value)) → Q .normal ⟨#[c0, c1, .pointer (some ⟨pb, 0, none⟩), c3, c4, c5, c6, c7, c8, c9, c10, c11, c12, c13, e14, e15, e16, e17, e18, e19, e20, e21, c22, c23, c24, c25, c26, c27, c28, c29, c30, c31, c32, c33, c34, c35, c36, c37, c38, c39, c40, c41, c42, c43, c44, c45, c46, c47, c48, c49, c50, c51, c52, c53, c54, c55, c56, c57, c58, c59, c60, c61, c62, c63, c64, c65, c66, c67, c68, c69, c70, c71, c72, c73, c74, c75, c76, c77, c78, c79, c80, c81, c82, c83, c84, c85, c86, c87, c88, c89, c90, c91, c92, c93, c94, c95, c96, c97, c98, c99, c100, c101, c102, c103, c104, c105, c106, c107, c108, c109, c110, c111, c112, c113, c114, c115, c116, c117, c118, c119, c120, c121, c122, c123, c124, c125, c126, c127, c128, c129, c130, c131], []⟩ w') :
    ofR1.wp Ybaz.prog Q ⟨#[c0, c1, .pointer (some ⟨pb, 0, none⟩), c3, c4, c5, c6, c7, c8, c9, c10, c11, c12, c13, c14, c15, c16, c17, c18, c19, c20, c21, c22, c23, c24, c25, c26, c27, c28, c29, c30, c31, c32, c33, c34, c35, c36, c37, c38, c39, c40, c41, c42, c43, c44, c45, c46, c47, c48, c49, c50, c51, c52, c53, c54, c55, c56, c57, c58, c59, c60, c61, c62, c63, c64, c65, c66, c67, c68, c69, c70, c71, c72, c73, c74, c75, c76, c77, c78, c79, c80, c81, c82, c83, c84, c85, c86, c87, c88, c89, c90, c91, c92, c93, c94, c95, c96, c97, c98, c99, c100, c101, c102, c103, c104, c105, c106, c107, c108, c109, c110, c111, c112, c113, c114, c115, c116, c117, c118, c119, c120, c121, c122, c123, c124, c125, c126, c127, c128, c129, c130, c131], []⟩ w := by
  have hAQ : Aside (∀ (w' : World) (p' : Option Addr) (c' : Nat) (e14 e15 e16 e17 e18 e19 e20 e21 : Value), KeySt w0 w' b0 len N pb V ks vs nv fv kv p' (0) c' (([] : List Value)) → Q .normal ⟨#[c0, c1, .pointer (some ⟨pb, 0, none⟩), c3, c4, c5, c6, c7, c8, c9, c10, c11, c12, c13, e14, e15, e16, e17, e18, e19, e20, e21, c22, c23, c24, c25, c26, c27, c28, c29, c30, c31, c32, c33, c34, c35, c36, c37, c38, c39, c40, c41, c42, c43, c44, c45, c46, c47, c48, c49, c50, c51, c52, c53, c54, c55, c56, c57, c58, c59, c60, c61, c62, c63, c64, c65, c66, c67, c68, c69, c70, c71, c72, c73, c74, c75, c76, c77, c78, c79, c80, c81, c82, c83, c84, c85, c86, c87, c88, c89, c90, c91, c92, c93, c94, c95, c96, c97, c98, c99, c100, c101, c102, c103, c104, c105, c106, c107, c108, c109, c110, c111, c112, c113, c114, c115, c116, c117, c118, c119, c120, c121, c122, c123, c124, c125, c126, c127, c128, c129, c130, c131], []⟩ w') := hQ
  have hA : Aside (KeySt w0 w b0 len N pb V ks vs nv fv kv p n c xs) := h
  obtain ⟨p0, b6, f6⟩ := h.cells
  have hlo := h.ks.lo
  have hpn : p = none → n = 0 ∧ c = 0 := fun e => by
    subst e
    rcases hA.out.row.2 with ⟨e, _⟩ | ⟨g, cp, cur, e, _⟩
    · injection e with _ e1 e2; exact ⟨e1, e2⟩
    · cases e
  have hcap : n ≤ c := by
    rcases hA.out.row.2 with ⟨e, _⟩ | ⟨g, cp, cur, e, _, _, h1, _⟩
    · injection e with _ e1 e2; omega
    · injection e with _ _ e2; omega
  have hE : KeySt w0 (w.drew.setCell ⟨b0 + 2, 6, none⟩ (.slice p 0 c)) b0 len N pb V ks vs nv fv kv p 0 c [] := by
    obtain ⟨hKs, hr, hk, hpb⟩ := hA.out
    have hbd : Below w.heap.size w w.drew := (Below.refl _ _).drew
    have hK1 := hKs.later hbd
    have hne : pb ≠ b0 + 2 := fun e => by
      subst e
      rw [hKs.box] at hpb; cases hpb
    refine ⟨hK1.setKey _, row_set ?_ (by omega), (hk.trans (Kept.later hbd (by omega))).trans (Kept.setRec _ _ hK1.box (by omega)), (Below.heap_setCell _ _ _ _ hne).trans hpb⟩
    rcases hr.2 with ⟨e, _⟩ | ⟨g, cp, cur, e, e2, e3, e4, e5, e6, _⟩
    · injection e with e1 e2 e3
      subst e1 e3
      exact ⟨by simp, .inl ⟨rfl, rfl⟩⟩
    · injection e with e1 e7 e8
      subst e1 e8
      exact ⟨by simp, .inr ⟨g, c, cur, rfl, e2, e3, Nat.zero_le _, e5, e6, by simp⟩⟩
  have HE : Aside (KeySt w0 (w.drew.setCell ⟨b0 + 2, 6, none⟩ (.slice p 0 c)) b0 len N pb V ks vs nv fv kv p 0 c []) := hE
  clear hE
  clear hQ h
  conv => arg 2; whnf
  refine wp_normal ?_
  cases p with
  | none =>
    obtain ⟨rfl, rfl⟩ := hpn rfl
    go_region
    all_goals
      exact hAQ.out _ _ _ _ _ _ _ _ _ _ _ HE.out
  | some ad =>
    clear hpn
    go_region
    all_goals
      exact hAQ.out _ _ _ _ _ _ _ _ _ _ _ HE.out
end Go.Proofs.YbulkcelaGreatDoor
