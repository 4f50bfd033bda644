/-
  matching (seat b4030aZD).
-/
import Derived.Test.YbulkcelaGreatDoorMatR
import Derived.Test.YbulkcelaGreatDoorMatT
namespace Go.Proofs.YbulkcelaGreatDoor
open Go.RowKit Go.MapKept Go.Lib Go.Shelf Go.Maps

theorem bodyPost_mono {P : Program} {fn : Func} {R R' : Ending → World → Prop} (h : ∀ e w, R e w → R' e w) (e : Exit) (a : Act) (w : World) (hb : bodyPost P fn R e a w) : bodyPost P fn R' e a w := by
  cases e <;> simp only [bodyPost] at hb ⊢ <;> first | exact hb.elim | exact h _ _ hb | exact ⟨hb.1, h _ _ hb.2⟩ | (obtain ⟨h1, v, h2, h3⟩ := hb; exact ⟨h1, v, h2, h _ _ h3⟩)

/-- What matching leaves. -/
structure MEnd (w : World) (mb : Nat) (Z : Nat → Nat → Nat → Prop) (dv : Value) (ks : List Int) (v : Value) (n : Nat) (xs : List Value) (w' : World) : Prop where
  os : w'.os = w.os
  tape : w'.tape = w.tape
  output : w'.output = w.output
  size : w.heap.size ≤ w'.heap.size
  block : ∀ k, k < w.heap.size → k ≠ mb → dv.ownBlock ≠ some k → w'.heap[k]? = w.heap[k]?
  col : ∃ cb lo hi, Z cb lo hi ∧ MapL w' mb [(aS, .pointer (some ⟨cb, 0, none⟩))] ∧ ColIn lo hi w' cb ks ∧ hi ≤ w'.heap.size ∧ w'.ownsRow hi 3 1 v n xs
  lies : v.ownBlock = dv.ownBlock ∨ ∀ g, v.ownBlock = some g → w.heap.size ≤ g

theorem make149 (w : World) : (Instr.makeSlice 149 (.int .i64 0) (.int .i64 1)).run Ybaz.prog w = .ok (.slice (some ⟨w.heap.size, 0, none⟩) 0 1) (w.alloc (.cells #[.pointer none, .slice none 0 0, .int .i64 0] 154)) := by
  obtain ⟨i0, hi, hz0, hz1, hz2⟩ := info_parts Ybaz.info154
  have hmk := run_make (P := Ybaz.prog) w 149 154 i0 _ Ybaz.underlying149 hi hz0 .i64 .i64 0 1 (by omega) (by omega) (by rw [hz2]; omega) (by omega)
  rw [hz1] at hmk
  rw [hmk, show madeCells tmZ.cells (Int.toNat 1 * 3) = #[.pointer none, .slice none 0 0, .int .i64 0] by kernel_rfl]
  rfl

/-- The one term goes into the row that was made for it. -/
theorem append_term (w : World) (tb b : Nat) (cur : Array Value) (a0 a1 a2 : Value) (h0 : a0.oneCell' = true) (h1 : a1.oneCell' = true) (h2 : a2.oneCell' = true) (htb : w.heap[tb]? = some (.cells cur 154 (0, 0))) (hs : cur.size = 3) (hb : w.heap[b]? = some (.cells #[a0, a1, a2] 154 (0, 0))) :
    (Builtin.append_ #[149, 149] 149 #[.slice (some ⟨tb, 0, none⟩) 0 1, .slice (some ⟨b, 0, none⟩) 1 1]).run Ybaz.prog w = .ok (.slice (some ⟨tb, 0, none⟩) 1 1) (w.setRow tb #[a0, a1, a2]) := by
  obtain ⟨i0, hi, hz0, hz1, hz2⟩ := info_parts Ybaz.info154
  have := run_append_room (P := Ybaz.prog) w 149 149 154 i0 Ybaz.underlying149 hi tb 0 1 cur htb ⟨b, 0, none⟩ 1 1 [a0, a1, a2] (by rw [hz1]; rfl) (World.news_of_block hb) (by intro u hu; simp at hu; rcases hu with rfl | rfl | rfl <;> assumption) (by omega) (by simp [hs])
  rw [this]
  have e : cur.toList.drop 3 = [] := by rw [List.drop_eq_nil_iff]; simp [hs]
  simp [e]

set_option linter.unusedSimpArgs false in
set_option maxRecDepth 100000 in
set_option maxHeartbeats 1000000 in
theorem mat_held (xb mb r sb m j D : Nat) (Z : Nat → Nat → Nat → Prop) (dv : Value) (ks : List Int) (w : World) (hM : MapL w r [(aS, .slice (some ⟨sb, 0, none⟩) 1 1)]) (hs : w.cell? ⟨sb, 0, none⟩ = some (.string (valS m))) (hd : w.ownsRow D 3 1 dv 0 []) (hrm : r ≠ mb) (hsm : sb ≠ mb) (hmb : mb < w.heap.size) (hmc : ∀ c t f, w.heap[mb]? ≠ some (.cells c t f)) (hC : ColC w xb mb dv ks Z) (hj : ks[j]? = some (m : Int)) (hK : ks.length ≤ 300) :
    Calls Ybaz.prog 56 #[.pointer (some ⟨xb, 0, none⟩), dv, .map (some r)] w fun e w' => ∃ v, e = .returned v ∧ MEnd w mb Z dv ks v 1 [.int .i64 (j : Nat)] w' := by
  have hlen := hM.len (t := 39) (e := 37) (ty := 3) Ybaz.underlying39
  have hmk := make149 w
  have hM1 : MapL (w.alloc (.cells #[.pointer none, .slice none 0 0, .int .i64 0] 154)) r [(aS, .slice (some ⟨sb, 0, none⟩) 1 1)] := hM.block (Below.heap_alloc _ _ _ hM.lt)
  obtain ⟨w1, w2, hrg, hnx, hen, hb2, hs2, hnc, hnx2⟩ := hM1.once (ty := 0) (t := 39) (e := 37) Ybaz.underlying39
  have e1 : (w.alloc (.cells #[.pointer none, .slice none 0 0, .int .i64 0] 154)).heap.size = w.heap.size + 1 := by simp
  rw [e1] at hrg hnx hen hb2 hs2 hnc hnx2
  have hcol := hC w2 (((Below.refl _ _).alloc (Nat.le_refl _) _).trans (hb2.mono (by omega))) (by omega)
  have hAm : Aside (∀ c t f, w.heap[mb]? ≠ some (.cells c t f)) := hmc
  clear hmc
  have hA : Aside (MapL w r [(aS, .slice (some ⟨sb, 0, none⟩) 1 1)] ∧ Below (w.heap.size + 1) (w.alloc (.cells #[.pointer none, .slice none 0 0, .int .i64 0] 154)) w2 ∧ w2.heap.size = w.heap.size + 1 + 1 ∧ (∀ w3, w3.heap[r]? = w2.heap[r]? → w3.heap[w.heap.size + 1]? = w2.heap[w.heap.size + 1]? → (Instr.next (.pointer (some ⟨w.heap.size + 1, 0, none⟩)) false 0).run Ybaz.prog w3 = .ok (.tuple #[.bool false]) w3) ∧ w.cell? ⟨sb, 0, none⟩ = some (.string (valS m)) ∧ w.ownsRow D 3 1 dv 0 []) := ⟨hM, hb2, hs2, hnx2, hs, hd⟩
  obtain ⟨dp, dc, rfl⟩ := own_form hd
  clear hM hM1 hb2 hs2 hnc hnx2 hs hd hC
  go_enter Ybaz.func56, Ybaz.ntmps56
  go_wp2
  clear hrg hmk hlen
  rename_i K1 hK1
  have hK1' : Aside (∀ (a : Act) (w : World), _ → K1 a w) := hK1
  clear hK1
  refine wp_loop_rounds 2 ?_
  rw [rounds_succ]
  go_wp2_with (go_at_call 70; refine hcol.mono ?_; rintro e w4 ⟨cb, lo, hi, rfl, hBlo, hlw, hdh, hE⟩; refine Veil.off ?_)
  unfold Veil
  clear hcol hnx hen
  obtain ⟨hM, hb2, hs2, hnx2, hs, hd⟩ := hA.out
  have hb4 : Below w.heap.size w w2 := ((Below.refl _ _).alloc (Nat.le_refl _) _).trans (hb2.mono (by omega))
  have hs4 := hE.size
  have hrl := hM.lt
  -- the column
  obtain ⟨wc, hwc, hca, hck⟩ := hE.col
  obtain ⟨nb, hb, nh, hc, t, g, gc, hH0⟩ := hca.held hj hK
  rw [hwc] at hH0
  have hH4 : ColHas lo hi w4 cb nb hb nh hc t g gc j m := hH0.kept hck
  have qs4 : w4.cell? ⟨sb, 0, none⟩ = some (.string (valS m)) := by
    have hsl : sb < w.heap.size := cell_lt hs
    exact (World.cell?_of_block ((hE.block sb (by omega) hsm).trans (hb4.block sb hsl))).trans hs
  -- the term's box
  obtain ⟨w5, hw5⟩ : ∃ w5, w4.alloc (.cells #[.pointer (some ⟨cb, 0, none⟩), .slice none 0 0, .int .i64 0] 154) = w5 := ⟨_, rfl⟩
  have hs5 : w5.heap.size = w4.heap.size + 1 := by rw [← hw5]; simp
  have hk5 : ∀ k, k < w4.heap.size → w5.heap[k]? = w4.heap[k]? := fun k hk => by rw [← hw5]; exact Below.heap_alloc _ _ _ hk
  have hX5 : w5.heap[w4.heap.size]? = some (.cells #[.pointer (some ⟨cb, 0, none⟩), .slice none 0 0, .int .i64 0] 154 (0, 0)) := by rw [← hw5, alloc_at, if_pos rfl]
  have hhi := hE.hi'
  have hH5 := hH4.kept fun k _ h2 => hk5 k (by omega)
  have qs5 : w5.cell? ⟨sb, 0, none⟩ = some (.string (valS m)) := (World.cell?_of_block (hk5 sb (cell_lt qs4))).trans qs4
  have x50 : w5.cell? ⟨w4.heap.size, 0, none⟩ = some (.pointer (some ⟨cb, 0, none⟩)) := Joins.cell_of_block hX5 0
  have x51 : w5.cell? ⟨w4.heap.size, 1, none⟩ = some (.slice none 0 0) := Joins.cell_of_block hX5 1
  have q50 := hH5.c0
  obtain ⟨ne, hne1, hne2⟩ := hH5.num
  have hlk := (hne1.look_some (t := 156) (e := 21) Ybaz.underlying156 hne2).2
  obtain ⟨i0, hi0, hz0, hz1, hz2⟩ := info_parts Ybaz.info21
  obtain ⟨ng, nc, w7, hap, hown7, hgr7, hlie7, hlt7⟩ := run_append_lies (P := Ybaz.prog) (w5.alloc (.cells #[.int .i32 ((t + 1 : Nat) : Int)] 21)) 152 152 w5.heap.size 21 i0 (.int .i32 0) 1 4 Ybaz.underlying152 hi0 hz0 hz1 hz2 rfl (by decide) (.slice none 0 0) 0 [] (World.ownsRow_nil _ _ _ _) ⟨w5.heap.size, 0, none⟩ 1 1 [.int .i32 ((t + 1 : Nat) : Int)] rfl (cell_one_new _ _ _) (by intro u hu; simp at hu; subst hu; rfl) (by decide) (by unfold maxLen; omega) (by omega) (by simp) _ rfl
  have hk7 : ∀ k, k < w5.heap.size → w7.heap[k]? = w5.heap[k]? := fun k hk => (hgr7.block k (by simp; omega) (fun e => by simp [Value.ownBlock] at e)).trans (Below.heap_alloc _ _ _ hk)
  have hX7 := (hk7 w4.heap.size (by omega)).trans hX5
  have x71 : w7.cell? ⟨w4.heap.size, 1, none⟩ = some (.slice none 0 0) := Joins.cell_of_block hX7 1
  have f71 : w7.frozen? ⟨w4.heap.size, 1, none⟩ = false := Joins.unfrozen_of_block hX7 1
  obtain ⟨_, hng7, qn7⟩ := owns_cell hown7 (j := 0) (u := .int .i32 ((t + 1 : Nat) : Int)) rfl
  have hngl : w5.heap.size ≤ ng := (hown7.lt ng rfl).1
  -- the numbers, stored twice
  obtain ⟨w8, hw8⟩ : ∃ w8, w7.setCell ⟨w4.heap.size, 1, none⟩ (.slice (some ⟨ng, 0, none⟩) 1 nc) = w8 := ⟨_, rfl⟩
  have hk8 : ∀ k, k ≠ w4.heap.size → w8.heap[k]? = w7.heap[k]? := fun k hne => by rw [← hw8]; exact Below.heap_setCell _ _ _ _ hne
  have hX8 : w8.heap[w4.heap.size]? = some (.cells #[.pointer (some ⟨cb, 0, none⟩), .slice (some ⟨ng, 0, none⟩) 1 nc, .int .i64 0] 154 (0, 0)) := by
    rw [← hw8]
    have := Joins.block_setCell (i := 1) hX7 (.slice (some ⟨ng, 0, none⟩) 1 nc)
    simpa using this
  have x81 : w8.cell? ⟨w4.heap.size, 1, none⟩ = some (.slice (some ⟨ng, 0, none⟩) 1 nc) := Joins.cell_of_block hX8 1
  have f81 : w8.frozen? ⟨w4.heap.size, 1, none⟩ = false := Joins.unfrozen_of_block hX8 1
  have hs8 : w8.heap.size = w7.heap.size := by rw [← hw8]; simp [World.setCell]
  obtain ⟨w9, hw9⟩ : ∃ w9, w8.setCell ⟨w4.heap.size, 1, none⟩ (.slice (some ⟨ng, 0, none⟩) 1 nc) = w9 := ⟨_, rfl⟩
  have hk9 : ∀ k, k ≠ w4.heap.size → w9.heap[k]? = w8.heap[k]? := fun k hne => by rw [← hw9]; exact Below.heap_setCell _ _ _ _ hne
  have hX9 : w9.heap[w4.heap.size]? = some (.cells #[.pointer (some ⟨cb, 0, none⟩), .slice (some ⟨ng, 0, none⟩) 1 nc, .int .i64 0] 154 (0, 0)) := by
    rw [← hw9]
    have := Joins.block_setCell (i := 1) hX8 (.slice (some ⟨ng, 0, none⟩) 1 nc)
    simpa using this
  have x91 : w9.cell? ⟨w4.heap.size, 1, none⟩ = some (.slice (some ⟨ng, 0, none⟩) 1 nc) := Joins.cell_of_block hX9 1
  have qn9 : w9.cell? ⟨ng, 0, none⟩ = some (.int .i32 ((t + 1 : Nat) : Int)) := (World.cell?_of_block ((hk9 ng (by omega)).trans (hk8 ng (by omega)))).trans qn7
  have hso := fun W => sort71 (some ⟨ng, 0, none⟩) 1 nc (Nat.le_refl _) W
  have hco := fun W => comp72 (some ⟨ng, 0, none⟩) 1 nc (Nat.le_refl _) W
  obtain ⟨T, hT⟩ : ∃ T, t + 1 = T := ⟨_, rfl⟩
  have hAT : Aside (t + 1 = T) := hT
  rw [hT] at qn9 hap hlk
  clear hT
  -- the frame, from the column's world on
  have hk49 : ∀ k, k < w4.heap.size → w9.heap[k]? = w4.heap[k]? := fun k hk => by
    rw [hk9 k (by omega), hk8 k (by omega), hk7 k (by omega), hk5 k hk]
  have hs9 : w9.heap.size = w7.heap.size := by rw [← hw9]; simp [World.setCell]; exact hs8
  have hAF : Aside ((∀ k, k < w4.heap.size → w9.heap[k]? = w4.heap[k]?) ∧ w9.heap[w4.heap.size]? = some (.cells #[.pointer (some ⟨cb, 0, none⟩), .slice (some ⟨ng, 0, none⟩) 1 nc, .int .i64 0] 154 (0, 0)) ∧ w9.heap.size = w7.heap.size ∧ w4.heap.size + 1 ≤ ng ∧ ng < w7.heap.size ∧ ColHas lo hi w4 cb nb hb nh hc t g gc j m ∧ CEnd w2 w4 mb cb lo hi ks ∧ Below w.heap.size w w2 ∧ Z cb lo hi ∧ (∀ (k : Nat), lo ≤ k → k < hi → k ≠ w.heap.size) ∧ (∀ (d : Nat), (Value.slice dp 0 dc).ownBlock = some d → hi ≤ d) ∧ w9.os = w4.os ∧ w9.tape = w4.tape ∧ w9.output = w4.output) :=
    ⟨hk49, hX9, hs9, by omega, hng7, hH4, hE, hb4, hBlo, hlw, hdh, by rw [← hw9, ← hw8]; exact hgr7.os.trans (by rw [← hw5]; rfl), by rw [← hw9, ← hw8]; exact hgr7.tape.trans (by rw [← hw5]; rfl), by rw [← hw9, ← hw8]; exact hgr7.output.trans (by rw [← hw5]; rfl)⟩
  rw [hs5] at hap
  clear hk49 hX9 hs9 hH4 hE hb4 hBlo hlw hdh hk9 hk8 hk7 hk5 hX8 hX7 hX5 hck hwc hca hH0 hH5 hne1 hne2 hown7 hgr7 hlie7 hlt7 hng7 hngl hi0 hz0 hz1 hz2 hM hb2 hs2 hnx2 hs hd qn7 hs8 hs5 hs4 hhi qs4 hrl
  subst hw5
  go_wp2
  refine wp_loop_rounds 2 ?_
  rw [rounds_succ]
  go_wp2_with (at_builtin; refine wpList_append_run rfl (.tmp 78) (.tmp 80) 152 rfl _ _ rfl rfl hap ?_)
  rw [rounds_succ]
  go_wp2_with (first
    | (go_at_call 71; refine (hso _).mono ?_; rintro e w9 ⟨rfl, hw9⟩; obtain rfl := hw9.symm)
    | (go_at_call 72; refine (hco _).mono ?_; rintro e w9 ⟨rfl, hw9⟩; obtain rfl := hw9.symm))
  refine wp_loop_rounds 2 ?_
  rw [rounds_succ]
  go_wp2
  obtain ⟨hk49, hX9, hs9, hng1, hng2, hH4, hE, hb4, hBlo, hlw, hdh, ho9, hta9, hou9⟩ := hAF.out
  obtain ⟨hM, hb2, hs2, hnx2, hs, hd⟩ := hA.out
  have hhi := hE.hi'
  have hs4 := hE.size
  have hw7s : w4.heap.size + 1 < w7.heap.size := by omega
  have hH9 := hH4.kept fun k _ h2 => hk49 k (by omega)
  have hT := hAT.out
  subst hT
  obtain ⟨w10, hw10⟩ : ∃ w10, w9.drew.setCell ⟨w4.heap.size, 2, none⟩ (.int .i64 1) = w10 := ⟨_, rfl⟩
  have hk10 : ∀ k, k ≠ w4.heap.size → w10.heap[k]? = w9.heap[k]? := fun k hne => by rw [← hw10]; exact Below.heap_setCell _ _ _ _ hne
  have hX10 : w10.heap[w4.heap.size]? = some (.cells #[.pointer (some ⟨cb, 0, none⟩), .slice (some ⟨ng, 0, none⟩) 1 nc, .int .i64 1] 154 (0, 0)) := by
    rw [← hw10]
    have := Joins.block_setCell (w := w9.drew) (i := 2) hX9 (.int .i64 1)
    simpa using this
  have hs10 : w10.heap.size = w7.heap.size := by rw [← hw10]; simp [World.setCell]; exact hs9
  have htb10 : w10.heap[w.heap.size]? = some (.cells #[.pointer none, .slice none 0 0, .int .i64 0] 154 (0, 0)) := by
    rw [hk10 _ (by omega), hk49 _ (by omega), hE.block _ (by omega) (by omega), hb2.block _ (by omega), alloc_at, if_pos rfl]
  obtain ⟨w11, hw11⟩ : ∃ w11, w10.alloc (.cells #[.pointer (some ⟨cb, 0, none⟩), .slice (some ⟨ng, 0, none⟩) 1 nc, .int .i64 1] 154) = w11 := ⟨_, rfl⟩
  have hs11 : w11.heap.size = w10.heap.size + 1 := by rw [← hw11]; simp
  have hk11 : ∀ k, k < w10.heap.size → w11.heap[k]? = w10.heap[k]? := fun k hk => by rw [← hw11]; exact Below.heap_alloc _ _ _ hk
  have hap2 := append_term w11 w.heap.size w10.heap.size _ (.pointer (some ⟨cb, 0, none⟩)) (.slice (some ⟨ng, 0, none⟩) 1 nc) (.int .i64 1) rfl rfl rfl ((hk11 _ (by omega)).trans htb10) rfl (by rw [← hw11, alloc_at, if_pos rfl])
  obtain ⟨w12, hw12⟩ : ∃ w12, w11.setRow w.heap.size #[.pointer (some ⟨cb, 0, none⟩), .slice (some ⟨ng, 0, none⟩) 1 nc, .int .i64 1] = w12 := ⟨_, rfl⟩
  rw [hw12] at hap2
  have hk12 : ∀ k, k ≠ w.heap.size → w12.heap[k]? = w11.heap[k]? := fun k hne => by rw [← hw12]; exact setRow_other _ _ _ _ hne
  have hs12 : w12.heap.size = w11.heap.size := by rw [← hw12]; simp [World.setRow]
  have htb12 : w12.heap[w.heap.size]? = some (.cells #[.pointer (some ⟨cb, 0, none⟩), .slice (some ⟨ng, 0, none⟩) 1 nc, .int .i64 1] 154 (0, 0)) := by
    rw [← hw12]; exact setRow_heap _ _ _ _ _ _ ((hk11 _ (by omega)).trans htb10)
  have hX12 : w12.heap[w4.heap.size]? = some (.cells #[.pointer (some ⟨cb, 0, none⟩), .slice (some ⟨ng, 0, none⟩) 1 nc, .int .i64 1] 154 (0, 0)) := by
    rw [hk12 _ (by omega), hk11 _ (by omega)]; exact hX10
  have hk412 : ∀ k, k < w4.heap.size → k ≠ w.heap.size → w12.heap[k]? = w4.heap[k]? := fun k hk hne => by
    rw [hk12 k hne, hk11 k (by omega), hk10 k (by omega), hk49 k hk]
  have hnx12 := fun q => hnx2 (w12.drewN q) (by show w12.heap[r]? = _; rw [hk412 r (by have := hM.lt; omega) (by have := hM.lt; omega), hE.block r (by have := hM.lt; omega) hrm]) (by show w12.heap[_]? = _; rw [hk412 _ (by omega) (by omega), hE.block _ (by omega) (by omega)])
  have x100 : w10.cell? ⟨w4.heap.size, 0, none⟩ = some (.pointer (some ⟨cb, 0, none⟩)) := Joins.cell_of_block hX10 0
  have x101 : w10.cell? ⟨w4.heap.size, 1, none⟩ = some (.slice (some ⟨ng, 0, none⟩) 1 nc) := Joins.cell_of_block hX10 1
  have x102 : w10.cell? ⟨w4.heap.size, 2, none⟩ = some (.int .i64 1) := Joins.cell_of_block hX10 2
  have x122 : w12.cell? ⟨w4.heap.size, 2, none⟩ = some (.int .i64 1) := Joins.cell_of_block hX12 2
  have t122 : w12.cell? ⟨w.heap.size, 2, none⟩ = some (.int .i64 1) := Joins.cell_of_block htb12 2
  have qn12 : w12.cell? ⟨ng, 0, none⟩ = some (.int .i32 ((t + 1 : Nat) : Int)) := (World.cell?_of_block (by rw [hk12 ng (by omega), hk11 ng (by omega), hk10 ng (by omega)])).trans qn9
  have r0 := Joins.cell_of_block hX9 0
  have r2 := Joins.cell_of_block hX9 2
  have rf := Joins.unfrozen_of_block hX9 2
  refine mat_r26 w4.heap.size cb hb nh hc t g gc w9 r0 r2 rf hH9.c2 hH9.tn hH9.ch _ _ _ _ _ _ _ _ _ _ _ _ _ _ _ _ _ _ _ _ _ _ _ _ _ _ _ _ _ _ _ _ _ _ _ _ _ _ _ _ _ _ _ _ _ _ _ _ _ _ _ _ _ _ _ _ _ _ _ _ _ _ _ _ _ _ _ _ _ _ _ _ _ _ _ _ _ _ _ _ _ _ _ _ _ _ _ _ _ _ _ _ _ _ _ _ _ _ _ _ _ _ _ _ _ _ _ _ _ _ _ _ _ _ _ _ _ _ _ _ _ _ _ _ _ _ _ _ _ _ _ _ _ _ _ _ _ _ _ _ _ _ _ _ _ _ _ _ _ _ _ _ _ _ _ _ _ _ _ _ _ _ _ _ _ _ _ _ _ _ _ _ _ _ _ _ _ _ _ _ _ _ _ _ _ _ _ _ _ _ _ _ _ _ _ _ _ _ _ _ _ _ _ _ _ _ _ _ _ _ _ _ _ _ (fun e98 e99 e100 e101 e102 e103 e104 e105 e106 e107 e108 e109 e110 => ?_)
  rw [hw10]
  have hAG : Aside (∀ q, (∀ k, k < w4.heap.size → k ≠ w.heap.size → (w12.drewN q).heap[k]? = w4.heap[k]?) ∧ (w12.drewN q).heap[w.heap.size]? = some (.cells #[.pointer (some ⟨cb, 0, none⟩), .slice (some ⟨ng, 0, none⟩) 1 nc, .int .i64 1] 154 (0, 0)) ∧ (w12.drewN q).heap.size = w7.heap.size + 1 ∧ (w12.drewN q).os = w4.os ∧ (w12.drewN q).tape = w4.tape ∧ (w12.drewN q).output = w4.output ∧ (w12.drewN q).cell? ⟨ng, 0, none⟩ = some (.int .i32 ((t + 1 : Nat) : Int))) :=
    fun q => ⟨hk412, htb12, by show w12.heap.size = _; omega, by rw [← hw12, ← hw11, ← hw10]; exact ho9, by rw [← hw12, ← hw11, ← hw10]; exact hta9, by rw [← hw12, ← hw11, ← hw10]; exact hou9, qn12⟩
  clear hk412 htb12 hs12 hs11 hs10 hs9 hk10 hk11 hk12 hk49 hX9 hX10 hX12 htb10 hH4 hH9 hE hb4 hBlo hlw hdh ho9 hta9 hou9 hM hb2 hs2 hnx2 hs hd hng1 hng2 qn12 qn9 r0 r2 rf hw10 hw12 hhi hs4 hap hlk hso hco qs5 x50 x51 x71 x81 x91 f71 f81 hw8 hw9 q50
  go_wp2
  rw [rounds_succ]
  go_wp2_with (at_builtin; refine wpList_append_run rfl (.tmp 112) (.tmp 114) 149 rfl _ _ rfl rfl hap2 ?_)
  go_quiet (fail)
  clear hap2
  rename_i nq _
  go_wp2
  rw [rounds_succ]
  go_wp2
  refine hK1'.out _ _ ?_
  clear hK1' hnx12 x100 x101 x102 x122 t122
  obtain ⟨hk49, hX9, hs9, hng1, hng2, hH4, hE, hb4, hBlo, hlw, hdh, _, _, _⟩ := hAF.out
  obtain ⟨hk12, htb12, hs12, ho12, hta12, hou12, qn12⟩ := hAG.out nq
  obtain ⟨hM, hb2, hs2, _, hs, hd⟩ := hA.out
  have hhi := hE.hi'
  have hs4 := hE.size
  have hH12 := hH4.kept fun k h1 h2 => hk12 k (by omega) (hlw k h1 h2)
  have hrow : (w12.drewN nq).ownsRow hi 3 1 (.slice dp 0 dc) 0 [] := by
    obtain ⟨h0, h1 | ⟨gg, cap, cur, e1, e2, e3, e4⟩⟩ := hd
    · exact ⟨h0, .inl h1⟩
    · have hgl : gg < w.heap.size := (Array.getElem?_eq_some_iff.1 e3).1
      have hmc := hAm.out
      have hgm : gg ≠ mb := fun e => by
        subst e
        exact hmc _ _ _ e3
      refine ⟨h0, .inr ⟨gg, cap, cur, e1, hdh gg (by rw [e1]; rfl), ?_, e4⟩⟩
      rw [hk12 gg (by omega) (by omega), hE.block gg (by omega) hgm, hb4.block gg hgl]; exact e3
  refine wp_mono (mat_tail1 w.heap.size cb nb hb nh hc t g gc j m lo hi ng nc hi dc dp 1 (w12.drewN nq) htb12 (by omega) hrow (fun k h1 h2 => hlw k h1 h2) (by omega) (by omega) qn12 hH12 _ _ _ _ _ _ _ _ _ _ _ _ _ _ _ _ _ _ _ _ _ _ _ _ _ _ _ _ _ _ _ _ _ _ _ _ _ _ _ _ _ _ _ _ _ _ _ _ _ _ _ _ _ _ _ _ _ _ _ _ _ _ _ _ _ _ _ _ _ _ _ _ _ _ _ _ _ _ _ _ _ _ _ _ _ _ _ _ _ _ _ _ _ _ _ _ _ _ _ _ _ _ _ _ _ _ _ _ _ _ _ _ _ _ _ _ _ _ _ _ _ _ _ _ _ _ _ _ _ _ _ _ _ _ _ _ _ _ _ _ _ _ _ _ _ _ _ _ _ _ _ _ _ _ _ _ _ _ _ _ _ _ _ _ _ _ _ _ _ _ _ _ _ _ _ _ _ _ _ _ _ _ _ _ _ _ _ _ _ _ _ _ _ _ _ _ _ _ _ _ _ _ _ _ _ _ _ _ _ _ _ ) ?_
  intro e a w' hb'
  refine bodyPost_mono ?_ e a w' hb'
  rintro e w' ⟨g2, c2, rfl, h1, h2, h3⟩
  have hml : mb < w4.heap.size := by omega
  have hdm : (Value.slice dp 0 dc).ownBlock ≠ some mb := fun e => by
    obtain ⟨_, cur, hcur⟩ := own_block hd e
    exact hAm.out _ _ _ hcur
  have hsz := h3.size
  refine ⟨_, rfl, h3.os.trans (ho12.trans (hE.os.trans hb4.os)), h3.tape.trans (hta12.trans (hE.tape.trans hb4.tape)), h3.output.trans (hou12.trans (hE.output.trans hb4.output)), by omega, fun k k1 k2 k3 => ?_, ⟨cb, lo, hi, hBlo, ?_, ?_, by omega, h1⟩, ?_⟩
  · rw [h3.block k (by omega) (by omega) k3, hk12 k (by omega) (by omega), hE.block k (by omega) k2, hb4.block k k1]
  · refine hE.cols.block ?_
    rw [h3.block mb (by omega) (by omega) hdm, hk12 mb hml (by omega)]
  · refine hE.col.kept fun k k1 k2 => ?_
    rw [h3.block k (by omega) (hlw k k1 k2) (fun e => by have := hdh k e; omega), hk12 k (by omega) (hlw k k1 k2)]
  · rcases h2 with h2 | h2
    · exact .inl h2.symm
    · refine .inr fun g' e => ?_
      simp [Value.ownBlock] at e
      omega
end Go.Proofs.YbulkcelaGreatDoor
