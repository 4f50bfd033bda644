/-
  matching, a value that no kind holds (seat b4030aZD).
-/
import Derived.Test.YbulkcelaGreatDoorMatH
namespace Go.Proofs.YbulkcelaGreatDoor
open Go.RowKit Go.MapKept Go.Lib Go.Shelf Go.Maps

set_option linter.unusedSimpArgs false in
set_option maxRecDepth 100000 in
set_option maxHeartbeats 1000000 in
theorem mat_nope (xb mb r sb m D : Nat) (Z : Nat → Nat → Nat → Prop) (dv : Value) (ks : List Int) (w : World) (hM : MapL w r [(aS, .slice (some ⟨sb, 0, none⟩) 1 1)]) (hs : w.cell? ⟨sb, 0, none⟩ = some (.string (valS m))) (hd : w.ownsRow D 3 1 dv 0 []) (hrm : r ≠ mb) (hsm : sb ≠ mb) (hmb : mb < w.heap.size) (hmc : ∀ c t f, w.heap[mb]? ≠ some (.cells c t f)) (hC : ColC w xb mb dv ks Z) (hj : (m : Int) ∉ ks) (hm : m < 3) (hr : ∀ x ∈ ks, -1 ≤ x ∧ x ≤ 2) :
    Calls Ybaz.prog 56 #[.pointer (some ⟨xb, 0, none⟩), dv, .map (some r)] w fun e w' => ∃ v, e = .returned v ∧ MEnd w mb Z dv ks v 0 [] w' := by
  have hlen := hM.len (t := 39) (e := 37) (ty := 3) Ybaz.underlying39
  have hmk := make149 w
  have hM1 : MapL (w.alloc (.cells #[.pointer none, .slice none 0 0, .int .i64 0] 154)) r [(aS, .slice (some ⟨sb, 0, none⟩) 1 1)] := hM.block (Below.heap_alloc _ _ _ hM.lt)
  obtain ⟨w1, w2, hrg, hnx, hen, hb2, hs2, hnc, hnx2⟩ := hM1.once (ty := 0) (t := 39) (e := 37) Ybaz.underlying39
  have e1 : (w.alloc (.cells #[.pointer none, .slice none 0 0, .int .i64 0] 154)).heap.size = w.heap.size + 1 := by simp
  rw [e1] at hrg hnx hen hb2 hs2 hnc hnx2
  have hcol := hC w2 (((Below.refl _ _).alloc (Nat.le_refl _) _).trans (hb2.mono (by omega))) (by omega)
  have hAm : Aside (∀ c t f, w.heap[mb]? ≠ some (.cells c t f)) := hmc
  clear hmc
  have hA : Aside (MapL w r [(aS, .slice (some ⟨sb, 0, none⟩) 1 1)] ∧ Below (w.heap.size + 1) (w.alloc (.cells #[.pointer none, .slice none 0 0, .int .i64 0] 154)) w2 ∧ w2.heap.size = w.heap.size + 1 + 1 ∧ (∀ w3, w3.heap[r]? = w2.heap[r]? → w3.heap[w.heap.size + 1]? = w2.heap[w.heap.size + 1]? → (Instr.next (.pointer (some ⟨w.heap.size + 1, 0, none⟩)) false 0).run Ybaz.prog w3 = .ok (.tuple #[.bool false]) w3) ∧ w.cell? ⟨sb, 0, none⟩ = some (.string (valS m)) ∧ w.ownsRow D 3 1 dv 0 []) := ⟨hM, hb2, hs2, hnx2, hs, hd⟩
  obtain ⟨dp, dc, rfl⟩ := own_form hd
  clear hM hM1 hb2 hs2 hnc hnx2 hs hd hC
  go_enter Ybaz.func56, Ybaz.ntmps56
  go_wp2
  clear hrg hmk hlen
  rename_i K1 hK1
  have hK1' : Aside (∀ (a : Act) (w : World), _ → K1 a w) := hK1
  clear hK1
  refine wp_loop_rounds 2 ?_
  rw [rounds_succ]
  go_wp2_with (go_at_call 70; refine hcol.mono ?_; rintro e w4 ⟨cb, lo, hi, rfl, hBlo, hlw, hdh, hE⟩; refine Veil.off ?_)
  unfold Veil
  clear hcol hnx hen
  obtain ⟨hM, hb2, hs2, hnx2, hs, hd⟩ := hA.out
  have hb4 : Below w.heap.size w w2 := ((Below.refl _ _).alloc (Nat.le_refl _) _).trans (hb2.mono (by omega))
  have hs4 := hE.size
  have hrl := hM.lt
  -- the column
  obtain ⟨wc, hwc, hca, hck⟩ := hE.col
  obtain ⟨nb, hH0⟩ := hca.nope hm hr hj
  rw [hwc] at hH0
  have hH4 : ColNot lo hi w4 cb nb m := hH0.kept hck
  have qs4 : w4.cell? ⟨sb, 0, none⟩ = some (.string (valS m)) := by
    have hsl : sb < w.heap.size := cell_lt hs
    exact (World.cell?_of_block ((hE.block sb (by omega) hsm).trans (hb4.block sb hsl))).trans hs
  -- the term's box
  obtain ⟨w5, hw5⟩ : ∃ w5, w4.alloc (.cells #[.pointer (some ⟨cb, 0, none⟩), .slice none 0 0, .int .i64 0] 154) = w5 := ⟨_, rfl⟩
  have hs5 : w5.heap.size = w4.heap.size + 1 := by rw [← hw5]; simp
  have hk5 : ∀ k, k < w4.heap.size → w5.heap[k]? = w4.heap[k]? := fun k hk => by rw [← hw5]; exact Below.heap_alloc _ _ _ hk
  have hX5 : w5.heap[w4.heap.size]? = some (.cells #[.pointer (some ⟨cb, 0, none⟩), .slice none 0 0, .int .i64 0] 154 (0, 0)) := by rw [← hw5, alloc_at, if_pos rfl]
  have hhi := hE.hi'
  have hH5 := hH4.kept fun k _ h2 => hk5 k (by omega)
  have qs5 : w5.cell? ⟨sb, 0, none⟩ = some (.string (valS m)) := (World.cell?_of_block (hk5 sb (cell_lt qs4))).trans qs4
  have x50 : w5.cell? ⟨w4.heap.size, 0, none⟩ = some (.pointer (some ⟨cb, 0, none⟩)) := Joins.cell_of_block hX5 0
  have x51 : w5.cell? ⟨w4.heap.size, 1, none⟩ = some (.slice none 0 0) := Joins.cell_of_block hX5 1
  have f51 : w5.frozen? ⟨w4.heap.size, 1, none⟩ = false := Joins.unfrozen_of_block hX5 1
  have q50 := hH5.c0
  obtain ⟨ne, hne1, hne2⟩ := hH5.num
  have hlk := (hne1.look_none (t := 156) (e := 21) Ybaz.underlying156 (z := .int .i32 0) (zero21 w5) (valS_size m) hne2).2
  obtain ⟨w9, hw9⟩ : ∃ w9, w5.setCell ⟨w4.heap.size, 1, none⟩ (.slice none 0 0) = w9 := ⟨_, rfl⟩
  have hk9 : ∀ k, k ≠ w4.heap.size → w9.heap[k]? = w5.heap[k]? := fun k hne => by rw [← hw9]; exact Below.heap_setCell _ _ _ _ hne
  have hX9 : w9.heap[w4.heap.size]? = some (.cells #[.pointer (some ⟨cb, 0, none⟩), .slice none 0 0, .int .i64 0] 154 (0, 0)) := by
    rw [← hw9]
    have := Joins.block_setCell (i := 1) hX5 (.slice none 0 0)
    simpa using this
  have hs9 : w9.heap.size = w4.heap.size + 1 := by rw [← hw9]; simp [World.setCell]; exact hs5
  have hso := fun W => sort71 none 0 0 (by omega) W
  have hco := fun W => comp72 none 0 0 (by omega) W
  have htb9 : w9.heap[w.heap.size]? = some (.cells #[.pointer none, .slice none 0 0, .int .i64 0] 154 (0, 0)) := by
    rw [hk9 _ (by omega), hk5 _ (by omega), hE.block _ (by omega) (by omega), hb2.block _ (by omega), alloc_at, if_pos rfl]
  obtain ⟨w11, hw11⟩ : ∃ w11, w9.alloc (.cells #[.pointer (some ⟨cb, 0, none⟩), .slice none 0 0, .int .i64 0] 154) = w11 := ⟨_, rfl⟩
  have hs11 : w11.heap.size = w9.heap.size + 1 := by rw [← hw11]; simp
  have hk11 : ∀ k, k < w9.heap.size → w11.heap[k]? = w9.heap[k]? := fun k hk => by rw [← hw11]; exact Below.heap_alloc _ _ _ hk
  have hap2 := append_term w11 w.heap.size w9.heap.size _ (.pointer (some ⟨cb, 0, none⟩)) (.slice none 0 0) (.int .i64 0) rfl rfl rfl ((hk11 _ (by omega)).trans htb9) rfl (by rw [← hw11, alloc_at, if_pos rfl])
  obtain ⟨w12, hw12⟩ : ∃ w12, w11.setRow w.heap.size #[.pointer (some ⟨cb, 0, none⟩), .slice none 0 0, .int .i64 0] = w12 := ⟨_, rfl⟩
  rw [hw12] at hap2
  have hk12 : ∀ k, k ≠ w.heap.size → w12.heap[k]? = w11.heap[k]? := fun k hne => by rw [← hw12]; exact setRow_other _ _ _ _ hne
  have hs12 : w12.heap.size = w11.heap.size := by rw [← hw12]; simp [World.setRow]
  have htb12 : w12.heap[w.heap.size]? = some (.cells #[.pointer (some ⟨cb, 0, none⟩), .slice none 0 0, .int .i64 0] 154 (0, 0)) := by
    rw [← hw12]; exact setRow_heap _ _ _ _ _ _ ((hk11 _ (by omega)).trans htb9)
  have hX12 : w12.heap[w4.heap.size]? = some (.cells #[.pointer (some ⟨cb, 0, none⟩), .slice none 0 0, .int .i64 0] 154 (0, 0)) := by
    rw [hk12 _ (by omega), hk11 _ (by omega)]; exact hX9
  have hk412 : ∀ k, k < w4.heap.size → k ≠ w.heap.size → w12.heap[k]? = w4.heap[k]? := fun k hk hne => by
    rw [hk12 k hne, hk11 k (by omega), hk9 k (by omega), hk5 k hk]
  have hnx12 := fun q => hnx2 (w12.drewN q) (by show w12.heap[r]? = _; rw [hk412 r (by have := hM.lt; omega) (by have := hM.lt; omega), hE.block r (by have := hM.lt; omega) hrm]) (by show w12.heap[_]? = _; rw [hk412 _ (by omega) (by omega), hE.block _ (by omega) (by omega)])
  have x90 : w9.cell? ⟨w4.heap.size, 0, none⟩ = some (.pointer (some ⟨cb, 0, none⟩)) := Joins.cell_of_block hX9 0
  have x91 : w9.cell? ⟨w4.heap.size, 1, none⟩ = some (.slice none 0 0) := Joins.cell_of_block hX9 1
  have x92 : w9.cell? ⟨w4.heap.size, 2, none⟩ = some (.int .i64 0) := Joins.cell_of_block hX9 2
  have x122 : w12.cell? ⟨w4.heap.size, 2, none⟩ = some (.int .i64 0) := Joins.cell_of_block hX12 2
  have t122 : w12.cell? ⟨w.heap.size, 2, none⟩ = some (.int .i64 0) := Joins.cell_of_block htb12 2
  have hw5' := hw5
  have hAG : Aside (∀ q, (∀ k, k < w4.heap.size → k ≠ w.heap.size → (w12.drewN q).heap[k]? = w4.heap[k]?) ∧ (w12.drewN q).heap[w.heap.size]? = some (.cells #[.pointer (some ⟨cb, 0, none⟩), .slice none 0 0, .int .i64 0] 154 (0, 0)) ∧ w4.heap.size ≤ (w12.drewN q).heap.size ∧ (w12.drewN q).os = w4.os ∧ (w12.drewN q).tape = w4.tape ∧ (w12.drewN q).output = w4.output) :=
    fun q => ⟨hk412, htb12, by show _ ≤ w12.heap.size; omega, by rw [← hw12, ← hw11, ← hw9, ← hw5]; rfl, by rw [← hw12, ← hw11, ← hw9, ← hw5]; rfl, by rw [← hw12, ← hw11, ← hw9, ← hw5]; rfl⟩
  have hAF : Aside (CEnd w2 w4 mb cb lo hi ks ∧ Below w.heap.size w w2 ∧ Z cb lo hi ∧ (∀ (k : Nat), lo ≤ k → k < hi → k ≠ w.heap.size) ∧ (∀ (d : Nat), (Value.slice dp 0 dc).ownBlock = some d → hi ≤ d)) := ⟨hE, hb4, hBlo, hlw, hdh⟩
  clear hk412 htb12 hs12 hs11 hs9 hk9 hk11 hk12 hk5 hX5 hX9 hX12 htb9 hH4 hH5 hH0 hE hb4 hBlo hlw hdh hM hb2 hs2 hnx2 hs hd hck hwc hca hne1 hne2 hw12 hhi hs4 hs5 qs4 hrl hw5'
  subst hw5
  have hA9 : Aside ((w4.alloc (.cells #[.pointer (some ⟨cb, 0, none⟩), .slice none 0 0, .int .i64 0] 154)).setCell ⟨w4.heap.size, 1, none⟩ (.slice none 0 0) = w9) := hw9
  clear hw9
  go_wp2
  have hw9 := hA9.out
  refine wp_loop_rounds 2 ?_
  rw [rounds_succ]
  go_wp2
  rw [rounds_succ]
  go_wp2_with (first
    | (go_at_call 71; refine (hso _).mono ?_; rintro e w9 ⟨rfl, hw9⟩; obtain rfl := hw9.symm)
    | (go_at_call 72; refine (hco _).mono ?_; rintro e w9 ⟨rfl, hw9⟩; obtain rfl := hw9.symm))
  refine wp_loop_rounds 1 ?_
  rw [rounds_succ]
  go_wp2_with (at_builtin; refine wpList_append_run rfl (.tmp 112) (.tmp 114) 149 rfl _ _ rfl rfl hap2 ?_)
  go_quiet (fail)
  clear hap2
  rename_i nq _
  go_wp2
  rw [rounds_succ]
  go_wp2
  refine hK1'.out _ _ ?_
  clear hK1' hnx12 x122 t122
  obtain ⟨hE, hb4, hBlo, hlw, hdh⟩ := hAF.out
  obtain ⟨hk12, htb12, hs12, ho12, hta12, hou12⟩ := hAG.out nq
  obtain ⟨hM, hb2, hs2, _, hs, hd⟩ := hA.out
  have hhi := hE.hi'
  have hs4 := hE.size
  have hmc := hAm.out
  refine wp_mono (mat_tail0 w.heap.size cb dc dp 0 (w12.drewN nq) htb12 _ _ _ _ _ _ _ _ _ _ _ _ _ _ _ _ _ _ _ _ _ _ _ _ _ _ _ _ _ _ _ _ _ _ _ _ _ _ _ _ _ _ _ _ _ _ _ _ _ _ _ _ _ _ _ _ _ _ _ _ _ _ _ _ _ _ _ _ _ _ _ _ _ _ _ _ _ _ _ _ _ _ _ _ _ _ _ _ _ _ _ _ _ _ _ _ _ _ _ _ _ _ _ _ _ _ _ _ _ _ _ _ _ _ _ _ _ _ _ _ _ _ _ _ _ _ _ _ _ _ _ _ _ _ _ _ _ _ _ _ _ _ _ _ _ _ _ _ _ _ _ _ _ _ _ _ _ _ _ _ _ _ _ _ _ _ _ _ _ _ _ _ _ _ _ _ _ _ _ _ _ _ _ _ _ _ _ _ _ _ _ _ _ _ _ _ _ _ _ _ _ _ _ _ _ _ _ _ _ _ _) ?_
  intro e a w' hb'
  refine bodyPost_mono ?_ e a w' hb'
  rintro e w' ⟨rfl, h3⟩
  have hsz := h3.size
  have hno : ∀ k : Nat, (Value.slice none 0 0).ownBlock ≠ some k := fun k e => by simp [Value.ownBlock] at e
  refine ⟨_, rfl, h3.os.trans (ho12.trans (hE.os.trans hb4.os)), h3.tape.trans (hta12.trans (hE.tape.trans hb4.tape)), h3.output.trans (hou12.trans (hE.output.trans hb4.output)), by omega, fun k k1 k2 k3 => ?_, ⟨cb, lo, hi, hBlo, ?_, ?_, by omega, ?_⟩, .inl rfl⟩
  · rw [h3.block k (by omega) (by omega) (hno k), hk12 k (by omega) (by omega), hE.block k (by omega) k2, hb4.block k k1]
  · refine hE.cols.block ?_
    rw [h3.block mb (by omega) (by omega) (hno mb), hk12 mb (by omega) (by omega)]
  · refine hE.col.kept fun k k1 k2 => ?_
    rw [h3.block k (by omega) (hlw k k1 k2) (hno k), hk12 k (by omega) (hlw k k1 k2)]
  · obtain ⟨h0, h1 | ⟨gg, cap, cur, e1, e2, e3, e4⟩⟩ := hd
    · exact ⟨h0, .inl h1⟩
    · have hgl : gg < w.heap.size := (Array.getElem?_eq_some_iff.1 e3).1
      have hgm : gg ≠ mb := fun e => by
        subst e
        exact hmc _ _ _ e3
      refine ⟨h0, .inr ⟨gg, cap, cur, e1, hdh gg (by rw [e1]; rfl), ?_, e4⟩⟩
      rw [h3.block gg (by omega) (by omega) (hno gg), hk12 gg (by omega) (by omega), hE.block gg (by omega) hgm, hb4.block gg hgl]; exact e3
end Go.Proofs.YbulkcelaGreatDoor
