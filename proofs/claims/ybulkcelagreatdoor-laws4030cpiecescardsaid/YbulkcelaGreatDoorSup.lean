/-
  Supply WHOLE (seat b4030aZD).
-/
import Derived.Test.YbulkcelaGreatDoorSupB
namespace Go.Proofs.YbulkcelaGreatDoor
open Go.RowKit Go.MapKept Go.Lib Go.Shelf Go.Maps Go.Sort

theorem make56' (n : Nat) (hn : n ≤ 1000) : ∃ zc : Array Value, zc.size = n ∧ ∀ w : World, (Instr.makeSlice 56 (.int .i64 n) (.int .i64 n)).run Ybaz.prog w = .ok (.slice (some ⟨w.heap.size, 0, none⟩) n n) (w.alloc (.cells zc 49)) := by
  obtain ⟨i0, hi, hz0, hz1, hz2⟩ := info_parts Ybaz.info49
  refine ⟨madeCells (Value.map none).cells n, by rw [size_madeCells], fun w => ?_⟩
  have hmk := run_make (P := Ybaz.prog) w 56 49 i0 _ Ybaz.underlying56 hi hz0 .i64 .i64 n n (by omega) (Int.le_refl _) (by rw [hz2]; omega) (by omega)
  rw [hz1, Nat.mul_one] at hmk
  simp only [Int.toNat_natCast] at hmk
  exact hmk

theorem SC.start {b0 kb K : Nat} {x y : Int} (w : World) (zc : Array Value) (hz : zc.size = K) : SC w b0 kb K x y (.slice none 0 0) (.slice none 0 0) zc [] [] (((((w.alloc (.cells #[.int .u64 0, .int .i64 x, .pointer none] 29)).alloc (.cells #[.int .u64 0, .int .i64 y, .pointer none] 29)).alloc (.cells #[.slice none 0 0, .slice none 0 0] 59)).alloc (.cells zc 49)).alloc (.cells #[.slice (some ⟨w.heap.size + 1 + 1 + 1, 0, none⟩) K K, .slice none 0 0] 59)) ∧ Below w.heap.size w (((((w.alloc (.cells #[.int .u64 0, .int .i64 x, .pointer none] 29)).alloc (.cells #[.int .u64 0, .int .i64 y, .pointer none] 29)).alloc (.cells #[.slice none 0 0, .slice none 0 0] 59)).alloc (.cells zc 49)).alloc (.cells #[.slice (some ⟨w.heap.size + 1 + 1 + 1, 0, none⟩) K K, .slice none 0 0] 59)) := by
  have hb : Below w.heap.size w (((((w.alloc (.cells #[.int .u64 0, .int .i64 x, .pointer none] 29)).alloc (.cells #[.int .u64 0, .int .i64 y, .pointer none] 29)).alloc (.cells #[.slice none 0 0, .slice none 0 0] 59)).alloc (.cells zc 49)).alloc (.cells #[.slice (some ⟨w.heap.size + 1 + 1 + 1, 0, none⟩) K K, .slice none 0 0] 59)) := ((((((Below.refl _ _).alloc (by omega) _).alloc (by simp) _).alloc (by simp; omega) _).alloc (by simp; omega) _).alloc (by simp; omega) _)
  have s5 : (((((w.alloc (.cells #[.int .u64 0, .int .i64 x, .pointer none] 29)).alloc (.cells #[.int .u64 0, .int .i64 y, .pointer none] 29)).alloc (.cells #[.slice none 0 0, .slice none 0 0] 59)).alloc (.cells zc 49)).alloc (.cells #[.slice (some ⟨w.heap.size + 1 + 1 + 1, 0, none⟩) K K, .slice none 0 0] 59)).heap.size = w.heap.size + 5 := by simp
  refine ⟨⟨hb.os, hb.tape, hb.output, by omega, fun k hk _ _ => hb.block k hk, ?_, ?_, ?_, ?_, hz, ?_, ⟨by simp, .inl ⟨rfl, rfl⟩⟩, ⟨by simp, .inl ⟨rfl, rfl⟩⟩⟩, hb⟩
  · rw [alloc_at, if_neg (by simp <;> omega), alloc_at, if_neg (by simp <;> omega), alloc_at, if_neg (by simp <;> omega), alloc_at, if_neg (by simp <;> omega), alloc_at, if_pos rfl]
  · rw [alloc_at, if_neg (by simp <;> omega), alloc_at, if_neg (by simp <;> omega), alloc_at, if_neg (by simp <;> omega), alloc_at, if_pos (by simp)]
  · rw [alloc_at, if_neg (by simp <;> omega), alloc_at, if_neg (by simp <;> omega), alloc_at, if_pos (by simp)]
  · rw [alloc_at, if_neg (by simp <;> omega), alloc_at, if_pos (by simp)]
  · rw [alloc_at, if_pos (by simp)]

/-- What Supply leaves. -/
structure SEnd (w : World) (b0 kb K : Nat) (vs : Nat → Value) (pv : Value) (PL : List (Nat × Nat × Int)) (w' : World) : Prop where
  os : w'.os = w.os
  tape : w'.tape = w.tape
  output : w'.output = w.output
  size : w.heap.size + 5 ≤ w'.heap.size
  low : ∀ k, k < w.heap.size → k ≠ kb → k ≠ b0 + 2 → w'.heap[k]? = w.heap[k]?
  kds : ∃ kcur : Array Value, w'.heap[w.heap.size + 3]? = some (.cells kcur 49 (0, 0)) ∧ kcur.size = K ∧ ∀ j, j < K → kcur[j]? = some (vs j)
  pcs : w'.ownsRow (w.heap.size + 5) 64 6 pv PL.length (PL.flatMap encP)

set_option linter.unusedSimpArgs false in
set_option maxRecDepth 100000 in
set_option maxHeartbeats 2000000 in
theorem supply9 (fb b0 kb kc len N B : Nat) (V : Nat → Nat) (S E : Nat → Int) (ki : Ents) (ks ds : List Int) (vs : Nat → Value) (nv fv kv keyv cv : Value) (x y sp : Int) (w : World) (hKs : Ks w b0 len N V ki ks vs nv fv kv keyv) (hkv : 0 < ks.length → kv = .slice (some ⟨kb, 0, none⟩) ks.length kc)
    (hfb : w.heap[fb]? = some (.cells #[.pointer (some ⟨b0 + 2, 0, none⟩), cv, .float .f64 (fi sp)] 73 (0, 0))) (hcv : w.ownsRow (b0 + 3) 53 1 cv ks.length (ds.map fun x => .float .f64 (fi x))) (hdl : ds.length = ks.length) (hK : ks.length ≤ 300) (hnd : ks.Nodup) (hr : ∀ x ∈ ks, -1 ≤ x ∧ x ≤ 2) (hlen : len ≤ 300) (hN : N < B) (hB : B ≤ b0) (hC : ∀ i, i < len → Con w N B V S E i)
    (hST : ∀ j, j < len → (0 ≤ S j ∧ S j ≤ 1000000) ∧ (0 ≤ E j ∧ E j ≤ 1000000)) (hx : 0 ≤ x ∧ x ≤ 1000000) (hy : 0 ≤ y ∧ y ≤ 1000000) (hxy : x < y) (hsp0 : 0 < sp) (hsp1 : sp ≤ 1000000) (hds : ∀ z ∈ ds, z.natAbs < 9007199254740992) :
    Calls Ybaz.prog 9 #[.pointer (some ⟨fb, 0, none⟩), tv x, tv y] w fun e w' => ∃ pv, e = .returned (.agg #[.slice (some ⟨w.heap.size + 3, 0, none⟩) ks.length ks.length, pv]) ∧ SEnd w b0 kb ks.length vs pv (allP sp ds (csOf x y V S E len ks) ks.length) w' := by
  have hA : Aside (Ks w b0 len N V ki ks vs nv fv kv keyv ∧ ks.Nodup ∧ (∀ x ∈ ks, -1 ≤ x ∧ x ≤ 2) ∧ (∀ i, i < len → Con w N B V S E i) ∧ (∀ j, j < len → (0 ≤ S j ∧ S j ≤ 1000000) ∧ (0 ≤ E j ∧ E j ≤ 1000000)) ∧ (∀ z ∈ ds, z.natAbs < 9007199254740992) ∧ w.ownsRow (b0 + 3) 53 1 cv ks.length (ds.map fun x => .float .f64 (fi x)) ∧ w.heap[fb]? = some (.cells #[.pointer (some ⟨b0 + 2, 0, none⟩), cv, .float .f64 (fi sp)] 73 (0, 0))) := ⟨hKs, hnd, hr, hC, hST, hds, hcv, hfb⟩
  have hlo := hKs.lo
  have hfl : fb < w.heap.size := (Array.getElem?_eq_some_iff.1 hfb).1
  have f1 : w.cell? ⟨fb, 1, none⟩ = some cv := Joins.cell_of_block hfb 1
  obtain ⟨cp, cc, hcvf⟩ := own_form hcv
  rw [hcvf] at f1
  have hf1 : fb < w.heap.size + 1 := by omega
  have hf2 : fb < w.heap.size + 1 + 1 := by omega
  have hf3 : fb < w.heap.size + 1 + 1 + 1 := by omega
  have hf4 : fb < w.heap.size + 1 + 1 + 1 + 1 := by omega
  obtain ⟨zc, hzs, hmk⟩ := make56' ks.length (by omega)
  clear hKs hnd hr hC hST hds hcv hfb
  go_enter Ybaz.func9, Ybaz.ntmps9
  go_wp2
  rename_i K1 hK1
  have hK1' : Aside (∀ (a : Act) (w : World), _ → K1 a w) := hK1
  clear hK1
  have hA0 := SC.start (b0 := b0) (kb := kb) (x := x) (y := y) w zc hzs
  clear hmk f1
  go_loopg [27, 8] (ks.length + 1) (fun q v27 v8 wx => ∃ (i : Nat) (cutv pv : Value) (kcur : Array Value) (CL : List Int) (bv : Nat → Value), v27 = .int .i64 i ∧ v8 = cutv ∧ i ≤ ks.length ∧ ks.length - i < q ∧ SC w b0 kb ks.length x y cutv pv kcur CL (allP sp ds (csOf x y V S E len ks) i) wx ∧ (∀ j, j < i → kcur[j]? = some (vs j)) ∧ ((i = 0 ∧ Below w.heap.size w wx) ∨ Bd w b0 kb kc len V S E ks vs bv nv fv keyv cutv wx))
  case atStart => exact ⟨0, _, _, zc, [], fun _ => .bool false, rfl, rfl, Nat.zero_le _, by omega, hA0.1, fun j hj => absurd hj (Nat.not_lt_zero _), .inl ⟨rfl, hA0.2⟩⟩
  case round =>
    obtain ⟨i, cutv, pv, kcur, CL, bv, rfl, hv8, hiK, hq, hS, hkc, hph⟩ := hrel
    obtain rfl := hv8.symm
    clear hv8
    by_cases hlt : i < ks.length
    · have hkv' := hkv (by omega)
      obtain ⟨hKs, hnd, hr, hC, hST, hds, hcv, hfb⟩ := hA.out
      rw [hkv'] at hKs
      obtain ⟨hkb3, kcu, hkcu⟩ := own_block hKs.kinds (g := kb) rfl
      have hkb : kb < w.heap.size := (Array.getElem?_eq_some_iff.1 hkcu).1
      obtain ⟨k, hik⟩ : ∃ k, ks[i]? = some k := ⟨_, List.getElem?_eq_getElem hlt⟩
      obtain ⟨mp, hmp⟩ := (hKs.vis i k hik).isMap
      have hfn : fb ≠ kb ∧ fb ≠ b0 + 2 := ⟨fun e => (by rw [e, hkcu] at hfb; cases hfb), fun e => (by rw [e, hKs.box] at hfb; cases hfb)⟩
      obtain ⟨d, hd⟩ : ∃ d, ds.getD i 0 = d := ⟨_, rfl⟩
      have hdn : d.natAbs < 9007199254740992 := by rw [← hd]; exact hds _ (getD_mem (by omega))
      obtain ⟨cg, rfl, hcn, hcc⟩ : ∃ cg, cp = some ⟨cg, 0, none⟩ ∧ (cg < w.heap.size ∧ cg ≠ kb ∧ cg ≠ b0 + 2) ∧ w.cell? ⟨cg, i, none⟩ = some (.float .f64 (fi d)) := by
        rw [hcvf] at hcv
        obtain ⟨cg, c', e⟩ := Joins.ownsRow_form hcv (by omega)
        injection e with e1 _ _
        subst e1
        obtain ⟨_, h1, h2⟩ := owns_cell hcv (j := i) (u := .float .f64 (fi d)) (by rw [List.getElem?_map, ← hd]; simp [List.getD, show i < ds.length by omega])
        obtain ⟨_, cu, hcu⟩ := own_block hcv (g := cg) rfl
        exact ⟨cg, rfl, ⟨h1, fun e => (by rw [e, hkcu] at hcu; cases hcu), fun e => (by rw [e, hKs.box] at hcu; cases hcu)⟩, h2⟩
      have hcell : wr.cell? ⟨cg, i, none⟩ = some (.float .f64 (fi d)) := (cell_block_eq (hS.low cg hcn.1 hcn.2.1 hcn.2.2)).trans hcc
      have hsz := hS.size
      have h1 : wr.cell? ⟨w.heap.size + 4, 0, none⟩ = some (.slice (some ⟨w.heap.size + 3, 0, none⟩) ks.length ks.length) := Joins.cell_of_block hS.sup 0
      have h2 : wr.cell? ⟨fb, 0, none⟩ = some (.pointer (some ⟨b0 + 2, 0, none⟩)) := (cell_block_eq (hS.low fb hfl hfn.1 hfn.2)).trans (Joins.cell_of_block hfb 0)
      have h34 : wr.cell? ⟨b0 + 2, 4, none⟩ = some (.slice (some ⟨kb, 0, none⟩) ks.length kc) ∧ wr.cell? ⟨kb, i * 2, none⟩ = some (.map mp) := by
        rcases hph with ⟨_, hbel⟩ | hB
        · have hKr := hKs.later (w' := wr) ⟨hbel.os, hbel.tape, hbel.output, hbel.size, hbel.block⟩
          refine ⟨Joins.cell_of_block hKr.box 4, ?_⟩
          obtain ⟨_, ⟨e, _⟩ | ⟨g, cp', cu, e, _, g3, g4, _, g6, g7⟩⟩ := hKr.kinds
          · cases e
          · cases e
            rw [← hmp, Joins.cell_of_block g3]
            have := flat2_get (fun j => [vs j, .slice none 0 0]) (fun _ => rfl) 0 (by omega) ks.length i hlt
            rw [← g7, List.getElem?_take, if_pos (by omega)] at this
            simpa using this
        · obtain ⟨cur, k1, k2⟩ := hB.kinds
          exact ⟨Joins.cell_of_block hB.box 4, by rw [← hmp, Joins.cell_of_block k1]; exact (k2 i hlt).1⟩
      obtain ⟨old, h5⟩ : ∃ old, wr.cell? ⟨w.heap.size + 3, i, none⟩ = some old := ⟨_, (Joins.cell_of_block hS.kds i).trans (Array.getElem?_eq_getElem (by rw [hS.kcs]; exact hlt))⟩
      have h6 : wr.frozen? ⟨w.heap.size + 3, i, none⟩ = false := Joins.unfrozen_of_block hS.kds i
      have hlt' : (i : Int) < (ks.length : Int) := by omega
      have hA1 : Aside (Ks w b0 len N V ki ks vs nv fv (.slice (some ⟨kb, 0, none⟩) ks.length kc) keyv ∧ ks.Nodup ∧ (∀ x ∈ ks, -1 ≤ x ∧ x ≤ 2) ∧ (∀ i, i < len → Con w N B V S E i) ∧ (∀ j, j < len → (0 ≤ S j ∧ S j ≤ 1000000) ∧ (0 ≤ E j ∧ E j ≤ 1000000)) ∧ w.heap[fb]? = some (.cells #[.pointer (some ⟨b0 + 2, 0, none⟩), cv, .float .f64 (fi sp)] 73 (0, 0)) ∧ SC w b0 kb ks.length x y cutv pv kcur CL (allP sp ds (csOf x y V S E len ks) i) wr ∧ (∀ j, j < i → kcur[j]? = some (vs j)) ∧ ((i = 0 ∧ Below w.heap.size w wr) ∨ Bd w b0 kb kc len V S E ks vs bv nv fv keyv cutv wr)) := ⟨hKs, hnd, hr, hC, hST, hfb, hS, hkc, hph⟩
      clear hKs hnd hr hC hST hds hcv hfb hS hkc hph
      go_wp2
      rename_i K6 hK6
      have hK6' : Aside (∀ (a : Act) (w : World), _ → K6 a w) := hK6
      clear hK6
      refine sup_r6 (w.heap.size + 4) (w.heap.size + 3) fb (b0 + 2) kb kc ks.length i mp old wr h1 h2 h34.1 h34.2 h5 h6 hlt (by omega) (by omega) _ _ _ _ _ _ _ _ _ _ _ _ _ _ _ _ _ _ _ _ _ _ _ _ _ _ _ _ _ _ _ _ _ _ _ _ _ _ _ _ _ _ _ _ _ _ _ _ _ _ _ _ _ _ _ _ _ _ _ _ _ _ _ _ _ _ _ _ _ _ _ _ _ _ _ _ _ _ _ _ _ _ _ _ _ _ _ _ _ _ _ _ _ _ _ _ _ _ _ _ _ _ _ _ _ _ _ _ _ _ _ _ (fun e32 e33 e34 e35 e36 e37 e38 e39 e40 e41 => ?_)
      refine hK6'.out _ _ ?_
      clear h1 h2 h34 h5 h6 hcell hK6'
      obtain ⟨hKs, hnd, hr, hC, hST, hfb, hS, hkc, hph⟩ := hA1.out
      obtain ⟨w1, hw1⟩ : ∃ w1, wr.drew.setCell ⟨w.heap.size + 3, i, none⟩ (.map mp) = w1 := ⟨_, rfl⟩
      have hdr : Below wr.heap.size wr wr.drew := (Below.refl _ _).drew
      have hS1 : SC w b0 kb ks.length x y cutv pv (kcur.setIfInBounds i (.map mp)) CL (allP sp ds (csOf x y V S E len ks) i) w1 := by rw [← hw1]; exact (hS.later hdr).kind i (.map mp)
      have hkc1 : ∀ j, j < i + 1 → (kcur.setIfInBounds i (.map mp))[j]? = some (vs j) := fun j hj => by
        rw [Array.getElem?_setIfInBounds]
        by_cases e : i = j
        · subst e; rw [if_pos rfl, if_pos (by rw [hS.kcs]; exact hlt), hmp]
        · rw [if_neg e]; exact hkc j (by omega)
      have hph1 : (i = 0 ∧ Below w.heap.size w w1) ∨ Bd w b0 kb kc len V S E ks vs bv nv fv keyv cutv w1 := by
        rw [← hw1]
        rcases hph with ⟨h, hb⟩ | hB
        · exact .inl ⟨h, hb.drew.setCell (p := ⟨w.heap.size + 3, i, none⟩) (Nat.le_add_right _ _) _⟩
        · exact .inr ((hB.later hS.cut hkb hlo hS.size hdr).kind hkb hlo i _)
      have hsz1 := hS1.size
      have hcut1 := hS1.cut
      have hkeep : ∀ w' : World, w1.grownBy w' cutv.ownBlock → w'.cell? ⟨w.heap.size, 0, none⟩ = some (.int .u64 0) ∧ w'.cell? ⟨w.heap.size, 1, none⟩ = some (.int .i64 x) ∧ w'.cell? ⟨w.heap.size, 2, none⟩ = some (.pointer none) := fun w' hg => by
        have hh := (hg.block w.heap.size (by omega) (fun e => by have := (own_block hS1.cut e.symm).1; omega)).trans hS1.frm
        exact ⟨Joins.cell_of_block hh 0, Joins.cell_of_block hh 1, Joins.cell_of_block hh 2⟩
      have hS7 := hkeep w1 (grown_below (Below.refl _ _))
      have hA2 : Aside (SC w b0 kb ks.length x y cutv pv (kcur.setIfInBounds i (.map mp)) CL (allP sp ds (csOf x y V S E len ks) i) w1 ∧ (∀ j, j < i + 1 → (kcur.setIfInBounds i (.map mp))[j]? = some (vs j)) ∧ ((i = 0 ∧ Below w.heap.size w w1) ∨ Bd w b0 kb kc len V S E ks vs bv nv fv keyv cutv w1)) := ⟨hS1, hkc1, hph1⟩
      rw [hw1]
      have hA1b : Aside (Ks w b0 len N V ki ks vs nv fv (.slice (some ⟨kb, 0, none⟩) ks.length kc) keyv ∧ ks.Nodup ∧ (∀ x ∈ ks, -1 ≤ x ∧ x ≤ 2) ∧ (∀ i, i < len → Con w N B V S E i) ∧ (∀ j, j < len → (0 ≤ S j ∧ S j ≤ 1000000) ∧ (0 ≤ E j ∧ E j ≤ 1000000)) ∧ w.heap[fb]? = some (.cells #[.pointer (some ⟨b0 + 2, 0, none⟩), cv, .float .f64 (fi sp)] 73 (0, 0))) := ⟨hKs, hnd, hr, hC, hST, hfb⟩
      clear hw1 hS1 hkc1 hph1 hKs hnd hr hC hST hfb hS hkc hph hA1
      refine wp_seq_k fun K7 hK7 => ?_
      have hK7' : Aside (∀ (a : Act) (w : World), _ → K7 a w) := hK7
      clear hK7
      refine sup_r7 w.heap.size (w.heap.size + 5) CL.length x cutv _ w1 hS7 hcut1 hsz1 hkeep _ _ _ _ _ _ _ _ _ _ _ _ _ _ _ _ _ _ _ _ _ _ _ _ _ _ _ _ _ _ _ _ _ _ _ _ _ _ _ _ _ _ _ _ _ _ _ _ _ _ _ _ _ _ _ _ _ _ _ _ _ _ _ _ _ _ _ _ _ _ _ _ _ _ _ _ _ _ _ _ _ _ _ _ _ _ _ _ _ _ _ _ _ _ _ _ _ _ _ _ _ _ _ _ _ _ _ _ _ _ _ _ _ (fun g cap w2 e42 e43 e44 e45 e46 hown2 hg2 hlie2 => ?_)
      refine hK7'.out _ _ ?_
      clear hK7' hkeep hS7
      obtain ⟨hS1, hkc1, hph1⟩ := hA2.out
      obtain ⟨hKs, hnd, hr, hC, hST, hfb⟩ := hA1b.out
      have hS2 : SC w b0 kb ks.length x y (.slice (some ⟨g, 0, none⟩) 1 cap) pv (kcur.setIfInBounds i (.map mp)) [x] (allP sp ds (csOf x y V S E len ks) i) w2 := hS1.cut' hg2 hown2
      have hlie2' : (Value.slice (some ⟨g, 0, none⟩) 1 cap).ownBlock = cutv.ownBlock ∨ ∀ g', (Value.slice (some ⟨g, 0, none⟩) 1 cap).ownBlock = some g' → w1.heap.size ≤ g' := by
        rcases hlie2 with h | h
        · exact .inl h.symm
        · refine .inr fun g' e => ?_
          have e' : g = g' := by simpa [Value.ownBlock] using e
          omega
      have hsz2 := hS2.size
      have h23 : Calls Ybaz.prog 23 #[.pointer (some ⟨b0 + 2, 0, none⟩), .int .i64 (i : Nat)] w2 fun e w' => ∃ bv, e = .returned (bv i) ∧ SC w b0 kb ks.length x y (.slice (some ⟨g, 0, none⟩) 1 cap) pv (kcur.setIfInBounds i (.map mp)) [x] (allP sp ds (csOf x y V S E len ks) i) w' ∧ Bd w b0 kb kc len V S E ks vs bv nv fv keyv (.slice (some ⟨g, 0, none⟩) 1 cap) w' := by
        rcases hph1 with ⟨h0, hbel⟩ | hBd
        · have hb2 : Below w.heap.size w w2 := hbel.grown hg2 (by omega) (fun k e => by have := (own_block hS1.cut e).1; omega)
          refine (bounds23 b0 len N B kb kc i V S E ki ks vs nv fv keyv w2 (hKs.later hb2) hlt hK hnd hr hlen hN hB (fun j hj => (hC j hj).below hN (hb2.mono (by omega)))).mono ?_
          rintro e w' ⟨bv', rfl, hE⟩
          obtain ⟨q1, q2⟩ := hS2.bound hkb hlo hE
          exact ⟨bv', rfl, q1, q2⟩
        · have hB2 := hBd.cut' hS1.cut hkb hlo hS1.size hg2 hlie2'
          obtain ⟨cur, k1, k2⟩ := hB2.kinds
          obtain ⟨p', c', hv⟩ := own_form (hB2.bnd i k hik)
          refine (bounds23_old kb kc ks.length (b0 + 2) i p' _ c' w2 (Joins.cell_of_block hB2.box 4) (Joins.cell_of_block hB2.box 5) hlt ((Joins.cell_of_block k1 _).trans ((k2 i hlt).2.trans (by rw [hv])))).mono ?_
          rintro e w' ⟨rfl, rfl⟩
          exact ⟨bv, by rw [hv], hS2, hB2⟩
      have hpl : (allP sp ds (csOf x y V S E len ks) i).length ≤ 1000000 := by
        have h := allP_length sp ds (csOf x y V S E len ks) 602 (fun j => by
          have h1 := (cutsOf_length x y (bdK V S E len (ks.getD j 0))).2
          have h2 := bdK_le V S E len (ks.getD j 0)
          unfold csOf
          omega) i
        have : i * 602 ≤ 300 * 602 := Nat.mul_le_mul_right _ (by omega)
        omega
      have hA3 : Aside (∀ j, j < i + 1 → (kcur.setIfInBounds i (.map mp))[j]? = some (vs j)) := hkc1
      refine sup_B fb b0 kb kc len i V S E ks vs nv fv keyv x y sp d (kcur.setIfInBounds i (.map mp)) (allP sp ds (csOf x y V S E len ks) i) w cv k hik hlen hST hx hy hxy hkb hlo hpl hsp0 hsp1 hdn hfb hfn g cap pv w2 hS2 h23 _ _ _ _ _ _ _ _ _ _ _ _ _ _ _ _ _ _ _ _ _ _ _ _ _ _ _ _ _ _ _ _ _ _ _ _ _ _ _ _ _ _ _ _ _ _ _ _ _ _ _ _ _ _ _ _ _ _ _ _ _ _ _ _ _ _ _ _ _ _ _ _ _ _ _ _ _ _ _ _ _ _ _ _ _ _ _ _ _ _ _ _ _ _ _ _ _ _ _ _ _ _ _ _ _ _ _ (fun bv' cutv' pv' w3 e12 e13 e14 e47 e48 e49 e50 e51 e52 e53 e54 e55 e56 e57 e58 e59 e60 e61 e62 e63 e64 e65 e66 e67 e68 e69 e70 e71 e72 e73 e74 e75 e76 e77 e78 e79 e80 e81 e82 e83 e84 e85 e86 e87 e88 e89 e90 e91 e92 e93 e94 e95 e96 e97 e98 e99 e100 e101 e102 e103 e104 e105 e106 e107 e108 e109 e110 hS3 hB3 => ?_)
      have hnx : allP sp ds (csOf x y V S E len ks) (i + 1) = allP sp ds (csOf x y V S E len ks) i ++ pieces i d sp ((csOf x y V S E len ks) i) := by rw [allP_succ, hd]
      rw [← hnx] at hS3
      have hA4 : Aside (SC w b0 kb ks.length x y cutv' pv' (kcur.setIfInBounds i (.map mp)) ((csOf x y V S E len ks) i) (allP sp ds (csOf x y V S E len ks) (i + 1)) w3 ∧ Bd w b0 kb kc len V S E ks vs bv' nv fv keyv cutv' w3) := ⟨hS3, hB3⟩
      clear h23 hS1 hkc1 hph1 hKs hnd hr hC hST hfb hS2 hS3 hB3 hA2 hA1b hown2 hg2 hlie2 hlie2' hcut1 hnx
      go_wp2
      go_roundg (ks.length - i)
      case measure => omega
      case rel => exact ⟨i + 1, _, _, _, _, _, by go_num, rfl, by omega, by omega, hA4.out.1, hA3.out, .inr hA4.out.2⟩
    · obtain rfl : i = ks.length := by omega
      have hsz := hS.size
      have z0 : wr.cell? ⟨w.heap.size + 4, 0, none⟩ = some (.slice (some ⟨w.heap.size + 3, 0, none⟩) ks.length ks.length) := Joins.cell_of_block hS.sup 0
      have z1 : wr.cell? ⟨w.heap.size + 4, 1, none⟩ = some pv := Joins.cell_of_block hS.sup 1
      have y0 : wr.cell? ⟨w.heap.size + 2, 0, none⟩ = some (.slice none 0 0) := Joins.cell_of_block hS.res 0
      have y1 : wr.cell? ⟨w.heap.size + 2, 1, none⟩ = some (.slice none 0 0) := Joins.cell_of_block hS.res 1
      have g0 : wr.frozen? ⟨w.heap.size + 2, 0, none⟩ = false := Joins.unfrozen_of_block hS.res 0
      have g1 : wr.frozen? ⟨w.heap.size + 2, 1, none⟩ = false := Joins.unfrozen_of_block hS.res 1
      obtain ⟨pp, pc, hpv⟩ := own_form hS.pcs
      have hA1 : Aside (SC w b0 kb ks.length x y cutv pv kcur CL (allP sp ds (csOf x y V S E len ks) ks.length) wr ∧ (∀ j, j < ks.length → kcur[j]? = some (vs j))) := ⟨hS, hkc⟩
      clear hS hkc hph
      obtain ⟨PN, hPN⟩ : ∃ PN, (allP sp ds (csOf x y V S E len ks) ks.length).length = PN := ⟨_, rfl⟩
      rw [hPN] at hpv
      subst hpv
      go_wp2
      refine hK1'.out _ _ ?_
      go_wp2
      obtain ⟨hS, hkc⟩ := hA1.out
      obtain ⟨W, hW⟩ : ∃ W, (wr.setCell ⟨w.heap.size + 1 + 1, 0, none⟩ (.slice (some ⟨w.heap.size + 3, 0, none⟩) ks.length ks.length)).setCell ⟨w.heap.size + 1 + 1, 1, none⟩ (.slice pp PN pc) = W := ⟨_, rfl⟩
      have hWb : W.heap[w.heap.size + 1 + 1]? = some (.cells #[.slice (some ⟨w.heap.size + 3, 0, none⟩) ks.length ks.length, .slice pp PN pc] 59 (0, 0)) := by
        rw [← hW]
        have h1 := Joins.block_setCell (i := 0) (g := w.heap.size + 1 + 1) hS.res (.slice (some ⟨w.heap.size + 3, 0, none⟩) ks.length ks.length)
        have h2 := Joins.block_setCell (i := 1) h1 (.slice pp PN pc)
        simpa using h2
      have hset : ∀ k, k ≠ w.heap.size + 2 → W.heap[k]? = wr.heap[k]? := fun k hk => by
        rw [← hW, Below.heap_setCell _ _ _ _ hk, Below.heap_setCell _ _ _ _ hk]
      have r0 : W.cell? ⟨w.heap.size + 1 + 1, 0, none⟩ = some (.slice (some ⟨w.heap.size + 3, 0, none⟩) ks.length ks.length) := Joins.cell_of_block hWb 0
      have r1 : W.cell? ⟨w.heap.size + 1 + 1, 1, none⟩ = some (.slice pp PN pc) := Joins.cell_of_block hWb 1
      rw [hW]
      refine bodyPost_ret (v := .agg #[.slice (some ⟨w.heap.size + 3, 0, none⟩) ks.length ks.length, .slice pp PN pc]) (by simp [results, Ybaz.results9, go_sem, r0, r1]) rfl ⟨_, rfl, ?_⟩
      refine ⟨?_, ?_, ?_, ?_, fun k k1 k2 k3 => (hset k (by omega)).trans (hS.low k k1 k2 k3), ⟨kcur, (hset _ (by omega)).trans hS.kds, hS.kcs, hkc⟩, ?_⟩
      · rw [← hW]; exact hS.os
      · rw [← hW]; exact hS.tape
      · rw [← hW]; exact hS.output
      · rw [← hW]; simp [World.setCell]; omega
      · exact owns_far hS.pcs fun g hg => hset g (by have := (own_block hS.pcs hg).1; omega)
end Go.Proofs.YbulkcelaGreatDoor
