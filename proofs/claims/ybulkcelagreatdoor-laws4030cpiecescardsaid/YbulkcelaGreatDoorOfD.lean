/-
  (*Kinds).Of: a new kind (seat b4030aZD).
-/
import Derived.Test.YbulkcelaGreatDoorOfL
namespace Go.Proofs.YbulkcelaGreatDoor
open Go.RowKit Go.MapKept Go.Lib Go.Shelf Go.Maps

/-- What Of leaves. -/
def OfEnd (w : World) (b0 len N : Nat) (V : Nat → Nat) (ks : List Int) (nv fv : Value) (k : Int) (j : Nat) (w' : World) : Prop :=
  Kept (b0 + 1) w w' ∧ ∃ ks' vs' kv' keyv' n xs, Ks w' b0 len N V (idxEnts ks') ks' vs' nv fv kv' keyv' ∧ w'.ownsRow (b0 + 3) 5 1 keyv' n xs ∧ n ≤ 10 ∧ ks'[j]? = some k ∧ ks' = (if k ∈ ks then ks else ks ++ [k])

theorem cell_lt {w : World} {a : Addr} {v : Value} (h : w.cell? a = some v) : a.block < w.heap.size := by
  unfold World.cell? at h
  by_cases hb : a.block < w.heap.size
  · exact hb
  · have : w.heap[a.block]? = none := Array.getElem?_eq_none (by omega)
    simp [this] at h

/-- A statement inside others, by its first region. -/
def insR (n : Nat) : Code → Option Code
  | .seq a b => match headR a == some n with
    | true => some (.seq a b)
    | false => match insR n a with
      | some c => some c
      | none => insR n b
  | .cond _ a b => match insR n a with
    | some c => some c
    | none => insR n b
  | .block _ c => insR n c
  | .scope c => insR n c
  | .loop c => insR n c
  | _ => none

noncomputable def ofD : Code := (Ybaz.f21.body.bind (insR 23)).getD .skip

theorem Ybaz.info105 : (Ybaz.prog.info? 105).map (fun i => (i.zero, i.size, i.bytes)) = some (some (.agg #[.map none, .slice none 0 0]), 2, 32) := by kernel_rfl

set_option linter.unusedSimpArgs false in
set_option maxRecDepth 100000 in
set_option maxHeartbeats 1000000 in
theorem of_D (b0 len N pb n c : Nat) (p : Option Addr) (V : Nat → Nat) (ks : List Int) (vs : Nat → Value) (nv fv kv : Value) (mp : Option Nat) (k : Int) (w0 w : World) (h03 : Kept (b0 + 1) w0 w) (hKs3 : Ks w b0 len N V (idxEnts ks) ks vs nv fv kv (.slice p n c))
    (hkey3 : w.ownsRow (b0 + 3) 5 1 (.slice p n c) n ((kbytes k).map (.int .u8))) (hn : n ≤ 10) (hpb3 : w.heap[pb]? = some (.cells #[.pointer (some ⟨b0 + 2, 0, none⟩)] 69 (0, 0))) (hr : ∀ x ∈ ks, -1 ≤ x ∧ x ≤ 2) (hk : -1 ≤ k ∧ k ≤ 2) (hks : ks.length ≤ 1000) (hnot : k ∉ ks) (hvis3 : VisAt w (b0 + 1) (.map mp) k)
    (Q : Exit → Act → World → Prop) (hQ : ∀ w', OfEnd w0 b0 len N V ks nv fv k ks.length w' → ∀ (e0 e1 e2 e3 e4 e5 e6 e7 e8 e9 e10 e12 e13 e14 e15 e16 e17 e18 e19 e20 e21 e22 e23 e24 e25 e26 e27 e28 e29 e30 e31 e32 e33 e34 e35 e36 e37 e38 e39 e40 e41 e42 e43 e44 e45 e46 e47 e48 e49 e50 e51 e52 e53 e54 e55 e56 e57 e58 e59 e60 e61 e62 e63 e64 e65 e66 e67 e68 e69 e70 e71 e72 e73 e74 e75 e76 e77 e78 e79 e80 e81 e82 e83 e84 e85 e86 e87 e88 e89 e90 e91 e92 e93 e94 e95 e96 e97 e98 e99 e100 e101 e102 e103 e104 e105 e106 e107 e108 e109 e110 e111 e112 e113 e114 e115 e116 e117 e118 e119 e120 e121 e122 e123 e124 e125 e126 e127 e128 e129 e130 e131 : Value), Q .normal ⟨#[e0, e1, e2, e3, e4, e5, e6, e7, e8, e9, e10, .int .i64 ks.length, e12, e13, e14, e15, e16, e17, e18, e19, e20, e21, e22, e23, e24, e25, e26, e27, e28, e29, e30, e31, e32, e33, e34, e35, e36, e37, e38, e39, e40, e41, e42, e43, e44, e45, e46, e47, e48, e49, e50, e51, e52, e53, e54, e55, e56, e57, e58, e59, e60, e61, e62, e63, e64, e65, e66, e67, e68, e69, e70, e71, e72, e73, e74, e75, e76, e77, e78, e79, e80, e81, e82, e83, e84, e85, e86, e87, e88, e89, e90, e91, e92, e93, e94, e95, e96, e97, e98, e99, e100, e101, e102, e103, e104, e105, e106, e107, e108, e109, e110, e111, e112, e113, e114, e115, e116, e117, e118, e119, e120, e121, e122, e123, e124, e125, e126, e127, e128, e129, e130, e131], []⟩ w') (c0 c1 c3 c4 c5 c6 c7 c8 c9 c10 c11 c12 c14 c15 c16 c17 c18 c19 c20 c21 c22 c23 c24 c25 c26 c27 c28 c29 c30 c31 c32 c33 c34 c35 c36 c37 c38 c39 c40 c41 c42 c43 c44 c45 c46 c47 c48 c49 c50 c51 c52 c53 c54 c55 c56 c57 c58 c59 c60 c61 c62 c63 c64 c65 c66 c67 c68 c69 c70 c71 c72 c73 c74 c75 c76 c77 c78 c79 c80 c81 c82 c83 c84 c85 c86 c87 c88 c89 c90 c91 c92 c93 c94 c95 c96 c97 c98 c99 c100 c101 c102 c103 c104 c105 c106 c107 c108 c109 c110 c111 c112 c113 c114 c115 c116 c117 c118 c119 c120 c121 c122 c123 c124 c125 c126 c127 c128 c129 c130 c131 : Value) :
    ofD.wp Ybaz.prog Q ⟨#[c0, c1, .pointer (some ⟨pb, 0, none⟩), c3, c4, c5, c6, c7, c8, c9, c10, c11, c12, .map mp, c14, c15, c16, c17, c18, c19, c20, c21, c22, c23, c24, c25, c26, c27, c28, c29, c30, c31, c32, c33, c34, c35, c36, c37, c38, c39, c40, c41, c42, c43, c44, c45, c46, c47, c48, c49, c50, c51, c52, c53, c54, c55, c56, c57, c58, c59, c60, c61, c62, c63, c64, c65, c66, c67, c68, c69, c70, c71, c72, c73, c74, c75, c76, c77, c78, c79, c80, c81, c82, c83, c84, c85, c86, c87, c88, c89, c90, c91, c92, c93, c94, c95, c96, c97, c98, c99, c100, c101, c102, c103, c104, c105, c106, c107, c108, c109, c110, c111, c112, c113, c114, c115, c116, c117, c118, c119, c120, c121, c122, c123, c124, c125, c126, c127, c128, c129, c130, c131], []⟩ w := by
  have hAR : Aside (∀ w', OfEnd w0 b0 len N V ks nv fv k ks.length w' → ∀ (e0 e1 e2 e3 e4 e5 e6 e7 e8 e9 e10 e12 e13 e14 e15 e16 e17 e18 e19 e20 e21 e22 e23 e24 e25 e26 e27 e28 e29 e30 e31 e32 e33 e34 e35 e36 e37 e38 e39 e40 e41 e42 e43 e44 e45 e46 e47 e48 e49 e50 e51 e52 e53 e54 e55 e56 e57 e58 e59 e60 e61 e62 e63 e64 e65 e66 e67 e68 e69 e70 e71 e72 e73 e74 e75 e76 e77 e78 e79 e80 e81 e82 e83 e84 e85 e86 e87 e88 e89 e90 e91 e92 e93 e94 e95 e96 e97 e98 e99 e100 e101 e102 e103 e104 e105 e106 e107 e108 e109 e110 e111 e112 e113 e114 e115 e116 e117 e118 e119 e120 e121 e122 e123 e124 e125 e126 e127 e128 e129 e130 e131 : Value), Q .normal ⟨#[e0, e1, e2, e3, e4, e5, e6, e7, e8, e9, e10, .int .i64 ks.length, e12, e13, e14, e15, e16, e17, e18, e19, e20, e21, e22, e23, e24, e25, e26, e27, e28, e29, e30, e31, e32, e33, e34, e35, e36, e37, e38, e39, e40, e41, e42, e43, e44, e45, e46, e47, e48, e49, e50, e51, e52, e53, e54, e55, e56, e57, e58, e59, e60, e61, e62, e63, e64, e65, e66, e67, e68, e69, e70, e71, e72, e73, e74, e75, e76, e77, e78, e79, e80, e81, e82, e83, e84, e85, e86, e87, e88, e89, e90, e91, e92, e93, e94, e95, e96, e97, e98, e99, e100, e101, e102, e103, e104, e105, e106, e107, e108, e109, e110, e111, e112, e113, e114, e115, e116, e117, e118, e119, e120, e121, e122, e123, e124, e125, e126, e127, e128, e129, e130, e131], []⟩ w') := hQ
  have hA : Aside ((∀ x ∈ ks, -1 ≤ x ∧ x ≤ 2)) := hr
  have hAnot : Aside (k ∉ ks) := hnot
  obtain ⟨kp, kcp, hkv⟩ := own_form hKs3.kinds
  subst hkv
  clear hQ hr hnot
  conv => arg 2; whnf
  have hlo3 := hKs3.lo
  have p0 : w.cell? ⟨pb, 0, none⟩ = some (.pointer (some ⟨b0 + 2, 0, none⟩)) := Joins.cell_of_block hpb3 0
  have b3 : w.cell? ⟨b0 + 2, 3, none⟩ = some (.map (some (b0 + 1))) := Joins.cell_of_block hKs3.box 3
  have b4 : w.cell? ⟨b0 + 2, 4, none⟩ = some (.slice kp ks.length kcp) := Joins.cell_of_block hKs3.box 4
  have b6 : w.cell? ⟨b0 + 2, 6, none⟩ = some (.slice p n c) := Joins.cell_of_block hKs3.box 6
  have hcv : (convert 88 9 (.slice p n c)).run Ybaz.prog w.drew = .ok (.string (kstr k)) w.drew := key_conv Ybaz.underlying88 Ybaz.underlying5 Ybaz.underlying9 hkey3 _ (fun _ _ h => h)
  have hMd : MapL w.drew (b0 + 1) (idxEnts ks) := hKs3.idx
  obtain ⟨w4, hup, hM4, hg4, hs4⟩ := hMd.store_new (t := 85) (e := 3) Ybaz.underlying85 (s := kstr k) (kstr_size k) (idx_not hA.out hk hAnot.out) (.int .i64 ks.length)
  have h4 : Ks w4 b0 len N V (idxEnts (ks ++ [k])) ks vs nv fv (.slice kp ks.length kcp) (.slice p n c) := by rw [idx_snoc]; exact (hKs3.later (Below.drew (Below.refl _ _))).setIdx hM4 hg4
  have hkey4 : w4.ownsRow (b0 + 3) 5 1 (.slice p n c) n ((kbytes k).map (.int .u8)) := row_map (w := w.drew) hkey3 hMd hg4
  have hK4 : Kept (b0 + 1) w0 w4 := (h03.trans (Kept.later (Below.drew (Below.refl _ _)) (by omega))).trans (Kept.idx hg4 (by show _ ≤ w.heap.size; omega))
  have hvis4 : VisAt w4 (b0 + 1) (.map mp) k := hvis3.kept fun r l hr hM => hM.block (hg4.block r hM.lt (fun e => hr (by injection e)))
  have hpbl : pb < w.heap.size := (Array.getElem?_eq_some_iff.1 hpb3).1
  have hpbn : pb ≠ b0 + 1 := fun e => by subst e; exact map_no_cells hKs3.idx _ _ _ hpb3
  have hpb4 : w4.heap[pb]? = some (.cells #[.pointer (some ⟨b0 + 2, 0, none⟩)] 69 (0, 0)) := (hg4.block pb hpbl (fun e => hpbn (by injection e))).trans hpb3
  have hS4 : w4.cell? ⟨pb, 0, none⟩ = some (.pointer (some ⟨b0 + 2, 0, none⟩)) ∧ w4.cell? ⟨b0 + 2, 3, none⟩ = some (.map (some (b0 + 1))) ∧ w4.cell? ⟨b0 + 2, 6, none⟩ = some (.slice p n c) ∧ (convert 88 9 (.slice p n c)).run Ybaz.prog w4 = .ok (.string (kstr k)) w4 :=
    ⟨Joins.cell_of_block hpb4 0, Joins.cell_of_block h4.box 3, Joins.cell_of_block h4.box 6, key_conv Ybaz.underlying88 Ybaz.underlying5 Ybaz.underlying9 hkey4 w4 (fun _ _ h => h)⟩
  have b44 : w4.cell? ⟨b0 + 2, 4, none⟩ = some (.slice kp ks.length kcp) := Joins.cell_of_block h4.box 4
  have hA4 : Aside (Ks w4 b0 len N V (idxEnts (ks ++ [k])) ks vs nv fv (.slice kp ks.length kcp) (.slice p n c) ∧ w4.ownsRow (b0 + 3) 5 1 (.slice p n c) n ((kbytes k).map (.int .u8)) ∧ Kept (b0 + 1) w0 w4 ∧ VisAt w4 (b0 + 1) (.map mp) k) := ⟨h4, hkey4, hK4, hvis4⟩
  have hb4 : b0 + 2 < w4.heap.size := h4.lo
  have hpb5 : Aside (w4.heap[pb]? = some (.cells #[.pointer (some ⟨b0 + 2, 0, none⟩)] 69 (0, 0))) := hpb4
  have hf4 : w4.frozen? ⟨b0 + 2, 4, none⟩ = false := Joins.unfrozen_of_block h4.box 4
  clear h4 hkey4 hK4 hvis4 hKs3 hkey3 hpb3 hpb4 hM4 hg4 hvis3 h03 hMd hs4
  go_wp2
  refine wp_normal ?_
  go_region_held (fun w' => w'.cell? ⟨pb, 0, none⟩ = some (.pointer (some ⟨b0 + 2, 0, none⟩)) ∧ w'.cell? ⟨b0 + 2, 3, none⟩ = some (.map (some (b0 + 1))) ∧ w'.cell? ⟨b0 + 2, 6, none⟩ = some (.slice p n c) ∧ (convert 88 9 (.slice p n c)).run Ybaz.prog w' = .ok (.string (kstr k)) w')
    (first | exact ⟨p0, b3, b6, hcv⟩ | exact hS4) (fail)
  show Exit.then _ _ Exit.normal _ _
  rename_i hHeld
  clear hHeld
  obtain ⟨i0, hi, hz0, hz1, hz2⟩ := info_parts Ybaz.info105
  have Hi : Aside (Ybaz.prog.info? 105 = some i0 ∧ i0.zero = some (.agg #[.map none, .slice none 0 0]) ∧ i0.size = 2 ∧ i0.bytes = 32) := ⟨hi, hz0, hz1, hz2⟩
  have hpl4 : pb < w4.heap.size := cell_lt hS4.1
  have hpk : ∀ cur, w4.heap[pb]? ≠ some (.cells cur 105 (0, 0)) := fun cur h => by rw [hpb5.out] at h; cases h
  have Hone : Aside (0 < 2) := by show 0 < 2; decide
  have Hown1 : Aside ((w4.alloc (.cells #[(.map mp), .slice none 0 0] 105)).drew.ownsRow (b0 + 3) 105 2 (.slice kp ks.length kcp) ks.length ((List.range ks.length).flatMap fun j => [vs j, .slice none 0 0])) := World.ownsRow.alloc hA4.out.1.kinds _
  have hnew : (w4.alloc (.cells #[(.map mp), .slice none 0 0] 105)).heap[w4.heap.size]? = some (.cells #[(.map mp), .slice none 0 0] 105 (0, 0)) := by rw [alloc_at, if_pos rfl]
  have Hnews : Aside (∀ (j : Nat) (u : Value), [(.map mp), .slice none 0 0][j]? = some u → (w4.alloc (.cells #[(.map mp), .slice none 0 0] 105)).drew.cell? ((⟨w4.heap.size, 0, none⟩ : Addr).add j) = some u) := fun j u hu => World.news_of_block hnew j u hu
  have H1c : Aside (∀ u ∈ [((.map mp) : Value), .slice none 0 0], u.oneCell' = true) := fun u hu => by
    simp at hu
    rcases hu with rfl | rfl <;> rfl
  have Hbase : Aside (b0 + 3 ≤ (w4.alloc (.cells #[(.map mp), .slice none 0 0] 105)).drew.heap.size) := by show b0 + 3 ≤ (w4.alloc _).heap.size; simp; omega
  have Hb1 : Aside (ks.length + 1 ≤ maxLen) := by show _ ≤ _; unfold maxLen; omega
  have Hb2 : Aside ((ks.length + 1) * 32 ≤ 140737488355328) := by show _ ≤ _; omega
  have Hend : Aside (∀ v' w5, w5.ownsRow (b0 + 3) 105 2 v' (ks.length + 1) (((List.range ks.length).flatMap fun j => [vs j, .slice none 0 0]) ++ [(.map mp), .slice none 0 0]) → (w4.alloc (.cells #[(.map mp), .slice none 0 0] 105)).drew.grownBy w5 (Value.slice kp ks.length kcp).ownBlock →
      (∃ g cp, v' = .slice (some ⟨g, 0, none⟩) (ks.length + 1) cp) ∧ w5.cell? ⟨pb, 0, none⟩ = some (.pointer (some ⟨b0 + 2, 0, none⟩)) ∧ w5.cell? ⟨b0 + 2, 4, none⟩ = some (.slice kp ks.length kcp) ∧ w5.frozen? ⟨b0 + 2, 4, none⟩ = false ∧ OfEnd w0 b0 len N V ks nv fv k ks.length (w5.setCell ⟨b0 + 2, 4, none⟩ v')) := fun v' w5 hown hg => by
    have hb4' : Below w4.heap.size w4 (w4.alloc (.cells #[(.map mp), .slice none 0 0] 105)).drew := ((Below.refl _ _).alloc (Nat.le_refl _) _).drew
    have hK5 := hA4.out.1.later hb4'
    have hszd : w4.heap.size ≤ (w4.alloc (.cells #[(.map mp), .slice none 0 0] 105)).drew.heap.size := by show _ ≤ (w4.alloc _).heap.size; simp
    have hgc : ∀ q, q < w4.heap.size → (∀ cur, w4.heap[q]? ≠ some (.cells cur 105 (0, 0))) → w5.heap[q]? = w4.heap[q]? := fun q hq hnc => (hg.block q (by omega) (fun e => by
      obtain ⟨_, cur, hc⟩ := own_block hK5.kinds e.symm
      exact hnc cur ((hb4'.block q hq).symm.trans hc))).trans (hb4'.block q hq)
    have hpb5' : w5.heap[pb]? = _ := (hgc pb hpl4 hpk).trans hpb5.out
    have hbx5 : w5.heap[b0 + 2]? = _ := (hgc (b0 + 2) hb4 (fun cur h => by rw [hA4.out.1.box] at h; cases h)).trans hA4.out.1.box
    have hvis5 : VisAt (w4.alloc (.cells #[(.map mp), .slice none 0 0] 105)).drew (b0 + 1) (.map mp) k := hA4.out.2.2.2.kept fun r l _ hM => hM.below hb4' hM.lt
    refine ⟨Joins.ownsRow_form hown (by omega), Joins.cell_of_block hpb5' 0, Joins.cell_of_block hbx5 4, Joins.unfrozen_of_block hbx5 4, ?_, ks ++ [k], _, v', _, n, (kbytes k).map (.int .u8), hK5.push hg hown hvis5, ?_, hn, ?_, by rw [if_neg hAnot.out]⟩
    · have k1 : Kept (b0 + 1) w4 (w4.alloc (.cells #[(.map mp), .slice none 0 0] 105)).drew := Kept.later hb4' (by omega)
      have k2 : Kept (b0 + 1) (w4.alloc (.cells #[(.map mp), .slice none 0 0] 105)).drew w5 := Kept.grown hK5.kinds (.inr rfl) hg (by omega) (by omega)
      exact ((hA4.out.2.2.1.trans k1).trans k2).trans (Kept.setRec _ v' hbx5 (by omega))
    · exact row_set (row_other (row_below hA4.out.2.1 hb4') hK5.kinds (by decide) hg) (by omega)
    · simp
  clear hi hz0 hz1 hz2 hnew hpk
  have p04 := hS4.1
  clear hS4
  go_wp2
  refine wp_normal ?_
  go_region_law (refine step_append_own rfl (.tmp 124) (.tmp 127) 87 rfl (b0 + 3) 105 i0 (.agg #[.map none, .slice none 0 0]) 2 32 Ybaz.underlying87 Hi.out.1 Hi.out.2.1 Hi.out.2.2.1 Hi.out.2.2.2 rfl Hone.out (.slice kp ks.length kcp) ks.length _ rfl Hown1.out ⟨w4.heap.size, 0, none⟩ 1 1 [(.map mp), .slice none 0 0] rfl rfl Hnews.out H1c.out Hb1.out Hb2.out Hbase.out ?_; intro v' w5 hown hgrow; obtain ⟨⟨g, cp, hv⟩, q0, q4, qf, hE⟩ := Hend.out v' w5 hown hgrow; have HE : Aside (OfEnd w0 b0 len N V ks nv fv k ks.length (w5.setCell ⟨b0 + 2, 4, none⟩ v')) := hE; clear hE hown hgrow; rw [hv]; rw [hv] at HE; clear hv)
  all_goals
    exact hAR.out _ HE.out _ _ _ _ _ _ _ _ _ _ _ _ _ _ _ _ _ _ _ _ _ _ _ _ _ _ _ _ _ _ _ _ _ _ _ _ _ _ _ _ _ _ _ _ _ _ _ _ _ _ _ _ _ _ _ _ _ _ _ _ _ _ _ _ _ _ _ _ _ _ _ _ _ _ _ _ _ _ _ _ _ _ _ _ _ _ _ _ _ _ _ _ _ _ _ _ _ _ _ _ _ _ _ _ _ _ _ _ _ _ _ _ _ _ _ _ _ _ _ _ _ _ _ _ _ _ _ _ _ _ _
end Go.Proofs.YbulkcelaGreatDoor
