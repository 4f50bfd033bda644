/-
  (*Kinds).Of, its second half (seat b4030aZD).
-/
import Derived.Test.YbulkcelaGreatDoorOfD
namespace Go.Proofs.YbulkcelaGreatDoor
open Go.RowKit Go.MapKept Go.Lib Go.Shelf Go.Maps

/-- The visit that Of is asked about: kc of its entries are kept; its key is k. -/
inductive Asked (w : World) (b0 len : Nat) (V : Nat → Nat) : Value → Int → Nat → Prop
  | kept (r m : Nat) (hm : m < 3) (hr : r ≠ b0 + 1) (hM : MapL w r [(aS, .string (valS m))]) : Asked w b0 len V (.map (some r)) m 1
  | nil : Asked w b0 len V (.map none) (-1) 0
  | lost (r m : Nat) (hm : m < 3) (hr : r ≠ b0 + 1) (hM : MapL w r [(aS, .string (valS m))]) (hno : ∀ i, i < len → V i ≠ m) : Asked w b0 len V (.map (some r)) (-1) 0

noncomputable def ofB : Code := (Ybaz.f21.body.bind (fromR 17)).getD .skip

set_option linter.unusedSimpArgs false in
set_option maxRecDepth 100000 in
set_option maxHeartbeats 1000000 in
theorem of_B (b0 len N pb n c kc : Nat) (p : Option Addr) (V : Nat → Nat) (ks : List Int) (vs : Nat → Value) (nv fv kv visv : Value) (k : Int) (w0 w : World) (h0 : Kept (b0 + 1) w0 w) (hKs : Ks w b0 len N V (idxEnts ks) ks vs nv fv kv (.slice p n c))
    (hkey : w.ownsRow (b0 + 3) 5 1 (.slice p n c) n ((kbytes k).map (.int .u8))) (hn : n ≤ 10) (hpb : w.heap[pb]? = some (.cells #[.pointer (some ⟨b0 + 2, 0, none⟩)] 69 (0, 0))) (hr : ∀ x ∈ ks, -1 ≤ x ∧ x ≤ 2) (hV : ∀ i, i < len → V i < 3) (hks : ks.length ≤ 1000) (hask : Asked w b0 len V visv k kc)
    (R : Ending → World → Prop) (hR : ∀ w' j, OfEnd w0 b0 len N V ks nv fv k j w' → R (.returned (.int .i64 (j : Nat))) w') (c3 c4 c6 c7 c8 c9 c10 c11 c12 c13 c14 c15 c16 c17 c18 c19 c20 c21 c22 c23 c24 c25 c26 c27 c28 c29 c30 c31 c32 c33 c34 c35 c36 c37 c38 c39 c40 c41 c42 c43 c44 c45 c46 c47 c48 c49 c50 c51 c52 c53 c54 c55 c56 c57 c58 c59 c60 c61 c62 c63 c64 c65 c66 c67 c68 c69 c70 c71 c72 c73 c74 c75 c76 c77 c78 c79 c80 c81 c82 c83 c84 c85 c86 c87 c88 c89 c90 c91 c92 c93 c94 c95 c96 c97 c98 c99 c100 c101 c102 c103 c104 c105 c106 c107 c108 c109 c110 c111 c112 c113 c114 c115 c116 c117 c118 c119 c120 c121 c122 c123 c124 c125 c126 c127 c128 c129 c130 c131 : Value) :
    ofB.wp Ybaz.prog (bodyPost Ybaz.prog Ybaz.f21 R) ⟨#[.pointer (some ⟨b0 + 2, 0, none⟩), visv, .pointer (some ⟨pb, 0, none⟩), c3, c4, .int .i64 (kc : Nat), c6, c7, c8, c9, c10, c11, c12, c13, c14, c15, c16, c17, c18, c19, c20, c21, c22, c23, c24, c25, c26, c27, c28, c29, c30, c31, c32, c33, c34, c35, c36, c37, c38, c39, c40, c41, c42, c43, c44, c45, c46, c47, c48, c49, c50, c51, c52, c53, c54, c55, c56, c57, c58, c59, c60, c61, c62, c63, c64, c65, c66, c67, c68, c69, c70, c71, c72, c73, c74, c75, c76, c77, c78, c79, c80, c81, c82, c83, c84, c85, c86, c87, c88, c89, c90, c91, c92, c93, c94, c95, c96, c97, c98, c99, c100, c101, c102, c103, c104, c105, c106, c107, c108, c109, c110, c111, c112, c113, c114, c115, c116, c117, c118, c119, c120, c121, c122, c123, c124, c125, c126, c127, c128, c129, c130, c131], []⟩ w := by
  have hAR : Aside (∀ w' j, OfEnd w0 b0 len N V ks nv fv k j w' → R (.returned (.int .i64 (j : Nat))) w') := hR
  have hA : Aside ((∀ x ∈ ks, -1 ≤ x ∧ x ≤ 2) ∧ (∀ i, i < len → V i < 3)) := ⟨hr, hV⟩
  have hk : -1 ≤ k ∧ k ≤ 2 := by cases hask <;> omega
  have hlo := hKs.lo
  have p0 : w.cell? ⟨pb, 0, none⟩ = some (.pointer (some ⟨b0 + 2, 0, none⟩)) := Joins.cell_of_block hpb 0
  have b3 : w.cell? ⟨b0 + 2, 3, none⟩ = some (.map (some (b0 + 1))) := Joins.cell_of_block hKs.box 3
  have b6 : w.cell? ⟨b0 + 2, 6, none⟩ = some (.slice p n c) := Joins.cell_of_block hKs.box 6
  have hcv : ∀ q, (convert 88 9 (.slice p n c)).run Ybaz.prog (w.drewN q) = .ok (.string (kstr k)) (w.drewN q) := fun q => key_conv Ybaz.underlying88 Ybaz.underlying5 Ybaz.underlying9 hkey (w.drewN q) (fun _ _ h => h)
  conv => arg 2; whnf
  by_cases hin : k ∈ ks
  · obtain ⟨j, hj, hjk⟩ := List.getElem_of_mem hin
    have hjk' : ks[j]? = some k := by rw [List.getElem?_eq_getElem hj, hjk]
    have hlk : ∀ q, (Instr.lookup 85 (.map (some (b0 + 1))) (.string (kstr k)) true).run Ybaz.prog (w.drewN q) = .ok (.tuple #[.int .i64 j, .bool true]) (w.drewN q) := fun q => ((show MapL (w.drewN q) (b0 + 1) (idxEnts ks) from hKs.idx).look_some (t := 85) (e := 3) Ybaz.underlying85 (idx_mem hjk')).2
    have hend : ∀ q, OfEnd w0 b0 len N V ks nv fv k j (w.drewN q) := fun q => ⟨h0.trans (Kept.later (below_drewN _ _ _) (by omega)), ks, vs, kv, _, n, _, hKs.later (below_drewN _ _ _), hkey, hn, hjk', by rw [if_pos hin]⟩
    have hAe : Aside (∀ q, OfEnd w0 b0 len N V ks nv fv k j (w.drewN q)) := hend
    clear hend hKs hkey hpb hask hR h0 hin hr hV hjk hjk'
    go_wp2
    go_quiet (fail)
    go_wp2
    exact hAR.out _ _ (hAe.out _)
  · have hAnot : Aside (k ∉ ks) := hin
    have hlk : ∀ q, (Instr.lookup 85 (.map (some (b0 + 1))) (.string (kstr k)) true).run Ybaz.prog (w.drewN q) = .ok (.tuple #[.int .i64 0, .bool false]) (w.drewN q) := fun q => ((show MapL (w.drewN q) (b0 + 1) (idxEnts ks) from hKs.idx).look_none (t := 85) (e := 3) Ybaz.underlying85 (z := .int .i64 0) (by rfl) (kstr_size k) (idx_not hr hk hin)).2
    clear hin hr hV hR
    refine wp_seq_k fun K0 hK0 => ?_
    have hK0' : Aside (∀ (a : Act) (w : World), _ → K0 a w) := hK0
    clear hK0
    cases hask with
    | kept r m hm hr hM =>
      go_wp2
      go_quiet (fail)
      obtain ⟨W, hW⟩ : ∃ W, w.drewN nq = W := ⟨_, rfl⟩
      rw [hW]
      have hbW : Below w.heap.size w W := by rw [← hW]; exact below_drewN _ _ _
      have hKs3 := hKs.later hbW
      have hkey3 := row_below hkey hbW
      have h03 := h0.trans (Kept.later hbW (by omega))
      have hpb3 := (hbW.block pb (Array.getElem?_eq_some_iff.1 hpb).1).trans hpb
      have hM3 := hM.below hbW hM.lt
      have hvis3 : VisAt W (b0 + 1) (.map (some r)) m := .inr ⟨m, hm, rfl, r, rfl, hr, hM3⟩
      have hln : ∀ ty, (Builtin.len_ #[49] ty #[.map (some r)]).run Ybaz.prog W = .ok (.int .i64 1) W := fun ty => hM3.len (t := 49) (e := 9) Ybaz.underlying49
      clear hKs hkey h0 hpb hM hM3 hW hbW p0 b3 b6 hcv hlk
      refine hK0'.out _ _ ?_
      clear hK0'
      refine wp_seq_k fun K1 hK1 => ?_
      have hK1' : Aside (∀ (a : Act) (w : World), _ → K1 a w) := hK1
      clear hK1
      refine wp_seq_k fun K2 hK2 => ?_
      have hK2' : Aside (∀ (a : Act) (w : World), _ → K2 a w) := hK2
      clear hK2
      go_wp2
      refine hK2'.out _ _ ?_
      clear hK2'
      refine wp_cond_true rfl ?_
      refine wp_seq_k fun K3 hK3 => ?_
      have hK3' : Aside (∀ (a : Act) (w : World), _ → K3 a w) := hK3
      clear hK3
      go_wp2
      refine hK3'.out _ _ ?_
      clear hK3'
      refine wp_seq_k fun K4 hK4 => ?_
      have hK4' : Aside (∀ (a : Act) (w : World), _ → K4 a w) := hK4
      clear hK4
      go_wp2
      refine hK4'.out _ _ ?_
      clear hK4'
      refine of_D b0 len N pb n c p V ks vs nv fv kv (some r) m w0 W h03 hKs3 hkey3 hn hpb3 hA.out.1 hk hks hAnot.out hvis3 _ (fun w' hE => ?_) _ _ _ _ _ _ _ _ _ _ _ _ _ _ _ _ _ _ _ _ _ _ _ _ _ _ _ _ _ _ _ _ _ _ _ _ _ _ _ _ _ _ _ _ _ _ _ _ _ _ _ _ _ _ _ _ _ _ _ _ _ _ _ _ _ _ _ _ _ _ _ _ _ _ _ _ _ _ _ _ _ _ _ _ _ _ _ _ _ _ _ _ _ _ _ _ _ _ _ _ _ _ _ _ _ _ _ _ _ _ _ _ _ _ _ _ _ _ _ _ _ _ _ _ _ _ _ _ _ _
      intros
      refine hK1'.out _ _ ?_
      go_wp2
      exact hAR.out _ _ hE
    | nil =>
      go_wp2
      go_quiet (fail)
      obtain ⟨W, hW⟩ : ∃ W, w.drewN nq = W := ⟨_, rfl⟩
      rw [hW]
      have hbW : Below w.heap.size w W := by rw [← hW]; exact below_drewN _ _ _
      have hKs3 := hKs.later hbW
      have hkey3 := row_below hkey hbW
      have h03 := h0.trans (Kept.later hbW (by omega))
      have hpb3 := (hbW.block pb (Array.getElem?_eq_some_iff.1 hpb).1).trans hpb
      have hvis3 : VisAt W (b0 + 1) (.map none) (-1) := .inl ⟨rfl, .inl rfl⟩
      have hln : ∀ ty, (Builtin.len_ #[49] ty #[.map none]).run Ybaz.prog W = .ok (.int .i64 0) W := fun ty => by simp [Builtin.len_, run_underlying Ybaz.underlying49, goInt]
      clear hKs hkey h0 hpb hW hbW p0 b3 b6 hcv hlk
      refine hK0'.out _ _ ?_
      clear hK0'
      refine wp_seq_k fun K1 hK1 => ?_
      have hK1' : Aside (∀ (a : Act) (w : World), _ → K1 a w) := hK1
      clear hK1
      refine wp_seq_k fun K2 hK2 => ?_
      have hK2' : Aside (∀ (a : Act) (w : World), _ → K2 a w) := hK2
      clear hK2
      go_wp2
      refine hK2'.out _ _ ?_
      clear hK2'
      refine wp_cond_true rfl ?_
      refine wp_seq_k fun K3 hK3 => ?_
      have hK3' : Aside (∀ (a : Act) (w : World), _ → K3 a w) := hK3
      clear hK3
      go_wp2
      refine hK3'.out _ _ ?_
      clear hK3'
      refine wp_seq_k fun K4 hK4 => ?_
      have hK4' : Aside (∀ (a : Act) (w : World), _ → K4 a w) := hK4
      clear hK4
      go_wp2
      refine hK4'.out _ _ ?_
      clear hK4'
      refine of_D b0 len N pb n c p V ks vs nv fv kv none (-1) w0 W h03 hKs3 hkey3 hn hpb3 hA.out.1 hk hks hAnot.out hvis3 _ (fun w' hE => ?_) _ _ _ _ _ _ _ _ _ _ _ _ _ _ _ _ _ _ _ _ _ _ _ _ _ _ _ _ _ _ _ _ _ _ _ _ _ _ _ _ _ _ _ _ _ _ _ _ _ _ _ _ _ _ _ _ _ _ _ _ _ _ _ _ _ _ _ _ _ _ _ _ _ _ _ _ _ _ _ _ _ _ _ _ _ _ _ _ _ _ _ _ _ _ _ _ _ _ _ _ _ _ _ _ _ _ _ _ _ _ _ _ _ _ _ _ _ _ _ _ _ _ _ _ _ _ _ _ _ _
      intros
      refine hK1'.out _ _ ?_
      go_wp2
      exact hAR.out _ _ hE
    | lost r m hm hr hM hno =>
      go_wp2
      go_quiet (fail)
      obtain ⟨W, hW⟩ : ∃ W, w.drewN nq = W := ⟨_, rfl⟩
      rw [hW]
      have hbW : Below w.heap.size w W := by rw [← hW]; exact below_drewN _ _ _
      have hKs3 := hKs.later hbW
      have hkey3 := row_below hkey hbW
      have h03 := h0.trans (Kept.later hbW (by omega))
      have hpb3 := (hbW.block pb (Array.getElem?_eq_some_iff.1 hpb).1).trans hpb
      have hM3 := hM.below hbW hM.lt
      have hln : ∀ ty, (Builtin.len_ #[49] ty #[.map (some r)]).run Ybaz.prog W = .ok (.int .i64 1) W := fun ty => hM3.len (t := 49) (e := 9) Ybaz.underlying49
      have hcl := clone34 r _ W hM3
      have hB : Aside (Ks W b0 len N V (idxEnts ks) ks vs nv fv kv (.slice p n c) ∧ W.ownsRow (b0 + 3) 5 1 (.slice p n c) n ((kbytes (-1)).map (.int .u8)) ∧ Kept (b0 + 1) w0 W ∧ W.heap[pb]? = some (.cells #[.pointer (some ⟨b0 + 2, 0, none⟩)] 69 (0, 0)) ∧ ∀ i, i < len → V i ≠ m) := ⟨hKs3, hkey3, h03, hpb3, hno⟩
      clear hKs hkey h0 hpb hM hM3 hW hbW p0 b3 b6 hcv hlk hKs3 hkey3 h03 hpb3 hno
      refine hK0'.out _ _ ?_
      clear hK0'
      refine wp_seq_k fun K1 hK1 => ?_
      have hK1' : Aside (∀ (a : Act) (w : World), _ → K1 a w) := hK1
      clear hK1
      refine wp_seq_k fun K2 hK2 => ?_
      have hK2' : Aside (∀ (a : Act) (w : World), _ → K2 a w) := hK2
      clear hK2
      go_wp2
      refine hK2'.out _ _ ?_
      clear hK2'
      refine wp_cond_true rfl ?_
      refine wp_seq_k fun K3 hK3 => ?_
      have hK3' : Aside (∀ (a : Act) (w : World), _ → K3 a w) := hK3
      clear hK3
      go_wp2
      refine hK3'.out _ _ ?_
      clear hK3'
      refine wp_seq_k fun K4 hK4 => ?_
      have hK4' : Aside (∀ (a : Act) (w : World), _ → K4 a w) := hK4
      clear hK4
      go_wp2_with (go_at_call 34; refine hcl.mono ?_; rintro e w1 ⟨rfl, hb1, hM1, hs1⟩; refine Veil.off ?_)
      unfold Veil
      clear hcl
      obtain ⟨hKsW, hkeyW, h0W, hpbW, hno⟩ := hB.out
      have hloW := hKsW.lo
      have hKs1 := hKsW.later hb1
      have hkey1 := row_below hkeyW hb1
      have hpbl := (Array.getElem?_eq_some_iff.1 hpbW).1
      have hpb1 := (hb1.block pb hpbl).trans hpbW
      have h01 := h0W.trans (Kept.later hb1 (by omega))
      have hmbl : ∀ mb vs', 0 < len → MapL W b0 [(aS, .map (some mb))] → MapL W mb (accEnts vs') → mb < W.heap.size := fun _ _ _ _ h => h.lt
      have haccB : ∀ W', w1.grownBy W' (some W.heap.size) → Acc W' (b0 + 2) b0 V len := fun W' hg => by
        have hk2 : ∀ q, q < W.heap.size → W'.heap[q]? = W.heap[q]? := fun q hq => (hg.block q (by omega) (fun e => by injection e; omega)).trans (hb1.block q hq)
        exact hKsW.acc.block (hk2 _ (by omega)) (fun mb _ hl _ => hk2 mb hl)
      have hdl := del35 pb b0 len m W.heap.size V w1 hM1 (by omega) (by omega) (by omega) (by omega) (Joins.cell_of_block hpb1 0) (Joins.cell_of_block hKs1.box 0) haccB hA.out.2 hm hno
      have hC : Aside (Ks w1 b0 len N V (idxEnts ks) ks vs nv fv kv (.slice p n c) ∧ w1.ownsRow (b0 + 3) 5 1 (.slice p n c) n ((kbytes (-1)).map (.int .u8)) ∧ Kept (b0 + 1) w0 w1 ∧ w1.heap[pb]? = some (.cells #[.pointer (some ⟨b0 + 2, 0, none⟩)] 69 (0, 0)) ∧ MapL w1 W.heap.size [(aS, .string (valS m))] ∧ Below W.heap.size W w1) := ⟨hKs1, hkey1, h01, hpb1, hM1, hb1⟩
      clear hKsW hkeyW h0W hpbW hno hKs1 hkey1 hpb1 h01 hmbl haccB hM1 hb1
      go_wp2_with (go_at_call 35; refine hdl.mono ?_; rintro e w2 ⟨rfl, hM2, hg2⟩; refine Veil.off ?_)
      unfold Veil
      clear hdl
      obtain ⟨hKs1, hkey1, h01, hpb1, hM1, hb1⟩ := hC.out
      have hbW2 : Below W.heap.size W w2 := hb1.trans ⟨hg2.os, hg2.tape, hg2.output, hg2.size, fun q hq => hg2.block q (by omega) (fun e => by injection e; omega)⟩
      have hKs3 := hB.out.1.later hbW2
      have hkey3 := row_below hB.out.2.1 hbW2
      have h03 := hB.out.2.2.1.trans (Kept.later hbW2 (by omega))
      have hpb3 := (hbW2.block pb hpbl).trans hB.out.2.2.2.1
      have hvis3 : VisAt w2 (b0 + 1) (.map (some W.heap.size)) (-1) := .inl ⟨rfl, .inr ⟨_, rfl, by omega, hM2⟩⟩
      clear hKs1 hkey1 h01 hpb1 hM1 hb1 hg2 hbW2
      go_wp2
      refine hK4'.out _ _ ?_
      clear hK4'
      refine of_D b0 len N pb n c p V ks vs nv fv kv (some W.heap.size) (-1) w0 w2 h03 hKs3 hkey3 hn hpb3 hA.out.1 hk hks hAnot.out hvis3 _ (fun w' hE => ?_) _ _ _ _ _ _ _ _ _ _ _ _ _ _ _ _ _ _ _ _ _ _ _ _ _ _ _ _ _ _ _ _ _ _ _ _ _ _ _ _ _ _ _ _ _ _ _ _ _ _ _ _ _ _ _ _ _ _ _ _ _ _ _ _ _ _ _ _ _ _ _ _ _ _ _ _ _ _ _ _ _ _ _ _ _ _ _ _ _ _ _ _ _ _ _ _ _ _ _ _ _ _ _ _ _ _ _ _ _ _ _ _ _ _ _ _ _ _ _ _ _ _ _ _ _ _ _ _ _ _
      intros
      refine hK1'.out _ _ ?_
      go_wp2
      exact hAR.out _ _ hE
end Go.Proofs.YbulkcelaGreatDoor
