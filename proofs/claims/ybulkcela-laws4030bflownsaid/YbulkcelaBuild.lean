/-
  zzs4030bbuild (seat b4030a): the contracts in memory.
-/
import Derived.Test.YbulkcelaMaps
import Derived.Lib.SmallJoins
namespace Go.Proofs.Ybulkcela
open Go.RowKit Go.MapKept

/-- One of the four names. -/
def Name4 (s : ByteArray) : Prop := s = ⟨#[97]⟩ ∨ s = ⟨#[98]⟩ ∨ s = ⟨#[100, 101, 118, 105, 99, 101]⟩ ∨ s = ⟨#[103, 101, 111]⟩

theorem Name4.size {s : ByteArray} (h : Name4 s) : s.size ≤ maxLen := by
  rcases h with rfl | rfl | rfl | rfl <;> decide

theorem name_walk (j : Int) (w : World) : Calls Yba.prog 8 #[.int .i64 j] w fun e w' => ∃ s, e = .returned (.string s) ∧ Name4 s ∧ w' = w := by
  by_cases h0 : j = 0
  · subst h0
    go_enter Yba.func8, Yba.ntmps8
    go_wp2
    go_ret
    exact ⟨_, rfl, Or.inl rfl, rfl⟩
  by_cases h1 : j = 1
  · subst h1
    go_enter Yba.func8, Yba.ntmps8
    go_wp2
    go_ret
    exact ⟨_, rfl, Or.inr (Or.inl rfl), rfl⟩
  by_cases h2 : j = 2
  · subst h2
    go_enter Yba.func8, Yba.ntmps8
    go_wp2
    go_ret
    exact ⟨_, rfl, Or.inr (Or.inr (Or.inl rfl)), rfl⟩
  · go_enter Yba.func8, Yba.ntmps8
    go_wp2
    go_ret
    exact ⟨_, rfl, Or.inr (Or.inr (Or.inr rfl)), rfl⟩

theorem Yba.info53 : (Yba.prog.info? 53).map (fun i => (i.zero, i.size, i.bytes)) = some (some (.agg #[.string ⟨#[]⟩, .int .i64 0, .map none, .int .u64 0, .int .i64 0, .pointer none, .int .u64 0, .int .i64 0, .pointer none]), 9, 80) := by kernel_rfl

/-- What a target is: nil, or a map of the call's own from the names to lists of strings of the argument's. -/
def TgtOK (w : World) (N B : Nat) (mv : Value) : Prop := mv = .map none ∨ ∃ r, N < r ∧ mv = .map (some r) ∧ MapOf w r Name4 (Strs w B)

/-- Contract i, done. -/
structure Con (w : World) (N B : Nat) (S E : Nat → Int) (i : Nat) : Prop where
  tgt : ∃ mv, w.cell? ⟨N, i * 9 + 2, none⟩ = some mv ∧ TgtOK w N B mv
  c3 : w.cell? ⟨N, i * 9 + 3, none⟩ = some (.int .u64 (S i % 1000000000))
  c4 : w.cell? ⟨N, i * 9 + 4, none⟩ = some (.int .i64 (S i / 1000000000))
  c5 : w.cell? ⟨N, i * 9 + 5, none⟩ = some (.pointer none)
  c6 : w.cell? ⟨N, i * 9 + 6, none⟩ = some (.int .u64 (E i % 1000000000))
  c7 : w.cell? ⟨N, i * 9 + 7, none⟩ = some (.int .i64 (E i / 1000000000))
  c8 : w.cell? ⟨N, i * 9 + 8, none⟩ = some (.pointer none)

/-- Between two worlds nothing that was there has turned but cells lo .. hi - 1 of block N. -/
structure Fr (N lo hi : Nat) (w w' : World) : Prop where
  os : w'.os = w.os
  tape : w'.tape = w.tape
  output : w'.output = w.output
  size : w.heap.size ≤ w'.heap.size
  block : ∀ k, k ≠ N → k < w.heap.size → w'.heap[k]? = w.heap[k]?
  cell : ∀ o, (o < lo ∨ hi ≤ o) → w'.cell? ⟨N, o, none⟩ = w.cell? ⟨N, o, none⟩
  shape : ∀ cs : Array Value, w.heap[N]? = some (.cells cs 53 (0, 0)) → ∃ cs' : Array Value, w'.heap[N]? = some (.cells cs' 53 (0, 0)) ∧ cs'.size = cs.size

theorem Fr.refl (N lo hi : Nat) (w : World) : Fr N lo hi w w := ⟨rfl, rfl, rfl, Nat.le_refl _, fun _ _ _ => rfl, fun _ _ => rfl, fun cs h => ⟨cs, h, rfl⟩⟩

theorem Fr.trans {N lo hi : Nat} {a b c : World} (h : Fr N lo hi a b) (k : Fr N lo hi b c) : Fr N lo hi a c :=
  ⟨k.os.trans h.os, k.tape.trans h.tape, k.output.trans h.output, Nat.le_trans h.size k.size, fun i hn hi => (k.block i hn (Nat.lt_of_lt_of_le hi h.size)).trans (h.block i hn hi),
   fun o ho => (k.cell o ho).trans (h.cell o ho), fun cs hcs => by
    obtain ⟨cs1, h1, h2⟩ := h.shape cs hcs
    obtain ⟨cs2, h3, h4⟩ := k.shape cs1 h1
    exact ⟨cs2, h3, h4.trans h2⟩⟩

theorem Fr.of_below {N lo hi : Nat} {w w' : World} (h : Below w.heap.size w w') (hN : N < w.heap.size) : Fr N lo hi w w' :=
  ⟨h.os, h.tape, h.output, h.size, fun k _ hk => h.block k hk, fun o _ => h.cell (p := ⟨N, o, none⟩) hN, fun cs hcs => ⟨cs, (h.block N hN).trans hcs, rfl⟩⟩

theorem Fr.of_set (w : World) {N lo hi o : Nat} (h1 : lo ≤ o) (h2 : o < hi) (v : Value) : Fr N lo hi w (w.setCell ⟨N, o, none⟩ v) :=
  ⟨rfl, rfl, rfl, by simp [World.setCell], fun k hk _ => Below.heap_setCell _ _ _ _ (by simpa using hk), fun p hp => World.cell?_setCell_other _ _ _ _ (fun e => by injection e; omega),
   fun cs hcs => ⟨_, Joins.block_setCell hcs v, by simp⟩⟩

theorem Fr.drewN {N lo hi : Nat} {w w' : World} (h : Fr N lo hi w w') (n : Nat) : Fr N lo hi w (w'.drewN n) := ⟨h.os, h.tape, h.output, h.size, h.block, h.cell, h.shape⟩

theorem Fr.below {N lo hi B : Nat} {w w' : World} (h : Fr N lo hi w w') (hB : B ≤ N) (hN : N < w.heap.size) : Below B w w' :=
  ⟨h.os, h.tape, h.output, h.size, fun k hk => h.block k (by omega) (by omega)⟩

theorem TgtOK.kept {w w' : World} {N B : Nat} {mv : Value} (h : TgtOK w N B mv) (hb : ∀ r, N < r → r < w.heap.size → w'.heap[r]? = w.heap[r]?) (hB : Below B w w') : TgtOK w' N B mv := by
  rcases h with h | ⟨r, hr, hm, hM⟩
  · exact Or.inl h
  · exact Or.inr ⟨r, hr, hm, hM.block (hb r hr hM.lt) fun v hv => SliceOf.kept hv hB fun _ h => h⟩

theorem Con.kept {w w' : World} {N B i : Nat} {S E : Nat → Int} (h : Con w N B S E i) (hc : ∀ j, j < 9 → w'.cell? ⟨N, i * 9 + j, none⟩ = w.cell? ⟨N, i * 9 + j, none⟩) (hb : ∀ r, N < r → r < w.heap.size → w'.heap[r]? = w.heap[r]?) (hB : Below B w w') : Con w' N B S E i := by
  obtain ⟨⟨mv, h1, h2⟩, c3, c4, c5, c6, c7, c8⟩ := h
  exact ⟨⟨mv, (hc 2 (by omega)).trans h1, h2.kept hb hB⟩, (hc 3 (by omega)).trans c3, (hc 4 (by omega)).trans c4, (hc 5 (by omega)).trans c5, (hc 6 (by omega)).trans c6, (hc 7 (by omega)).trans c7, (hc 8 (by omega)).trans c8⟩

/-- At the head of round i. -/
structure BRel (w : World) (len : Nat) (S E : Nat → Int) (i : Nat) (wr : World) : Prop where
  below : Below w.heap.size w wr
  blk : ∃ cs : Array Value, wr.heap[w.heap.size]? = some (.cells cs 53 (0, 0)) ∧ cs.size = len * 9
  done : ∀ j, j < i → Con wr w.heap.size w.heap.size S E j

theorem cells_of_blk {w : World} {N n : Nat} {cs : Array Value} (h : w.heap[N]? = some (.cells cs 53 (0, 0))) (hn : cs.size = n) (o : Nat) (ho : o < n) : (∃ v, w.cell? ⟨N, o, none⟩ = some v) ∧ w.frozen? ⟨N, o, none⟩ = false := by
  refine ⟨⟨cs[o], ?_⟩, Joins.unfrozen_of_block h o⟩
  rw [Joins.cell_of_block h]
  exact Array.getElem?_eq_getElem (by omega)

theorem Fr.set {N lo hi : Nat} {w w' : World} (h : Fr N lo hi w w') (o : Nat) (h1 : lo ≤ o) (h2 : o < hi) (v : Value) : Fr N lo hi w (w'.setCell ⟨N, o, none⟩ v) := h.trans (Fr.of_set w' h1 h2 v)

theorem cell_set_ne {w : World} {N o p : Nat} {u v : Value} (h : w.cell? ⟨N, p, none⟩ = some u) (hne : o ≠ p) : (w.setCell ⟨N, o, none⟩ v).cell? ⟨N, p, none⟩ = some u :=
  (World.cell?_setCell_other _ _ _ _ (fun e => by injection e; omega)).trans h

theorem cell_set_eq {w : World} {N p : Nat} {u v : Value} (h : w.cell? ⟨N, p, none⟩ = some u) : (w.setCell ⟨N, p, none⟩ v).cell? ⟨N, p, none⟩ = some v := World.cell?_setCell_same _ _ _ h

/-- The new contract stored, then a call that only makes memory. -/
theorem mid1 {wr w1 : World} {N o : Nat} {mv x0 x1 x3 x4 x5 x6 x7 x8 u2 : Value} (hN : N < wr.heap.size) (k2 : wr.cell? ⟨N, o + 2, none⟩ = some u2)
    (hb : Below (((((((((wr.setCell ⟨N, o, none⟩ x0).setCell ⟨N, o + 1, none⟩ x1).setCell ⟨N, o + 2, none⟩ mv).setCell ⟨N, o + 3, none⟩ x3).setCell ⟨N, o + 4, none⟩ x4).setCell ⟨N, o + 5, none⟩ x5).setCell ⟨N, o + 6, none⟩ x6).setCell ⟨N, o + 7, none⟩ x7).setCell ⟨N, o + 8, none⟩ x8).heap.size
      (((((((((wr.setCell ⟨N, o, none⟩ x0).setCell ⟨N, o + 1, none⟩ x1).setCell ⟨N, o + 2, none⟩ mv).setCell ⟨N, o + 3, none⟩ x3).setCell ⟨N, o + 4, none⟩ x4).setCell ⟨N, o + 5, none⟩ x5).setCell ⟨N, o + 6, none⟩ x6).setCell ⟨N, o + 7, none⟩ x7).setCell ⟨N, o + 8, none⟩ x8) w1) :
    Fr N o (o + 9) wr w1 ∧ w1.cell? ⟨N, o + 2, none⟩ = some mv := by
  have hf : Fr N o (o + 9) wr (((((((((wr.setCell ⟨N, o, none⟩ x0).setCell ⟨N, o + 1, none⟩ x1).setCell ⟨N, o + 2, none⟩ mv).setCell ⟨N, o + 3, none⟩ x3).setCell ⟨N, o + 4, none⟩ x4).setCell ⟨N, o + 5, none⟩ x5).setCell ⟨N, o + 6, none⟩ x6).setCell ⟨N, o + 7, none⟩ x7).setCell ⟨N, o + 8, none⟩ x8) :=
    (((((((((Fr.refl N o (o + 9) wr).set o (by omega) (by omega) x0).set (o + 1) (by omega) (by omega) x1).set (o + 2) (by omega) (by omega) mv).set (o + 3) (by omega) (by omega) x3).set (o + 4) (by omega) (by omega) x4).set (o + 5) (by omega) (by omega) x5).set (o + 6) (by omega) (by omega) x6).set (o + 7) (by omega) (by omega) x7).set (o + 8) (by omega) (by omega) x8
  have hN' := Nat.lt_of_lt_of_le hN hf.size
  refine ⟨hf.trans (Fr.of_below hb hN'), (hb.cell (p := ⟨N, o + 2, none⟩) hN').trans ?_⟩
  exact cell_set_ne (cell_set_ne (cell_set_ne (cell_set_ne (cell_set_ne (cell_set_ne (cell_set_eq (cell_set_ne (cell_set_ne k2 (by omega)) (by omega))) (by omega)) (by omega)) (by omega)) (by omega)) (by omega)) (by omega)

/-- Three cells stored, then a call that only makes memory. -/
theorem mid2 {w1 w2 : World} {N o : Nat} {mv x3 x4 x5 u3 u4 u5 : Value} (hN : N < w1.heap.size) (c2 : w1.cell? ⟨N, o + 2, none⟩ = some mv) (k3 : w1.cell? ⟨N, o + 3, none⟩ = some u3) (k4 : w1.cell? ⟨N, o + 4, none⟩ = some u4) (k5 : w1.cell? ⟨N, o + 5, none⟩ = some u5)
    (hb : Below (((w1.setCell ⟨N, o + 3, none⟩ x3).setCell ⟨N, o + 4, none⟩ x4).setCell ⟨N, o + 5, none⟩ x5).heap.size (((w1.setCell ⟨N, o + 3, none⟩ x3).setCell ⟨N, o + 4, none⟩ x4).setCell ⟨N, o + 5, none⟩ x5) w2) :
    Fr N o (o + 9) w1 w2 ∧ w2.cell? ⟨N, o + 2, none⟩ = some mv ∧ w2.cell? ⟨N, o + 3, none⟩ = some x3 ∧ w2.cell? ⟨N, o + 4, none⟩ = some x4 ∧ w2.cell? ⟨N, o + 5, none⟩ = some x5 := by
  have hf : Fr N o (o + 9) w1 (((w1.setCell ⟨N, o + 3, none⟩ x3).setCell ⟨N, o + 4, none⟩ x4).setCell ⟨N, o + 5, none⟩ x5) :=
    (((Fr.refl N o (o + 9) w1).set (o + 3) (by omega) (by omega) x3).set (o + 4) (by omega) (by omega) x4).set (o + 5) (by omega) (by omega) x5
  have hN' := Nat.lt_of_lt_of_le hN hf.size
  refine ⟨hf.trans (Fr.of_below hb hN'), (hb.cell (p := ⟨N, o + 2, none⟩) hN').trans ?_, (hb.cell (p := ⟨N, o + 3, none⟩) hN').trans ?_, (hb.cell (p := ⟨N, o + 4, none⟩) hN').trans ?_, (hb.cell (p := ⟨N, o + 5, none⟩) hN').trans ?_⟩
  · exact cell_set_ne (cell_set_ne (cell_set_ne c2 (by omega)) (by omega)) (by omega)
  · exact cell_set_ne (cell_set_ne (cell_set_eq k3) (by omega)) (by omega)
  · exact cell_set_ne (cell_set_eq (cell_set_ne k4 (by omega))) (by omega)
  · exact cell_set_eq (cell_set_ne (cell_set_ne k5 (by omega)) (by omega))

/-- The last three cells; the round's end. -/
theorem mid3 {w w2 wr wm : World} {len i : Nat} {S E : Nat → Int} {mv u6 u7 u8 : Value} (hlt : i < len) (hbel : Below w.heap.size w wr) (hblk : ∃ cs : Array Value, wr.heap[w.heap.size]? = some (.cells cs 53 (0, 0)) ∧ cs.size = len * 9)
    (hdone : ∀ j, j < i → Con wr w.heap.size w.heap.size S E j) (hgr : wr.grownBy wm none ∨ ∃ r, wr.heap.size ≤ r ∧ wr.grownBy wm (some r)) (htgt : TgtOK wm w.heap.size w.heap.size mv)
    (hfr : Fr w.heap.size (i * 9) (i * 9 + 9) wm w2) (c2 : w2.cell? ⟨w.heap.size, i * 9 + 2, none⟩ = some mv) (c3 : w2.cell? ⟨w.heap.size, i * 9 + 3, none⟩ = some (.int .u64 (S i % 1000000000)))
    (c4 : w2.cell? ⟨w.heap.size, i * 9 + 4, none⟩ = some (.int .i64 (S i / 1000000000))) (c5 : w2.cell? ⟨w.heap.size, i * 9 + 5, none⟩ = some (.pointer none))
    (k6 : w2.cell? ⟨w.heap.size, i * 9 + 6, none⟩ = some u6) (k7 : w2.cell? ⟨w.heap.size, i * 9 + 7, none⟩ = some u7) (k8 : w2.cell? ⟨w.heap.size, i * 9 + 8, none⟩ = some u8) :
    BRel w len S E (i + 1) (((w2.setCell ⟨w.heap.size, i * 9 + 6, none⟩ (.int .u64 (E i % 1000000000))).setCell ⟨w.heap.size, i * 9 + 7, none⟩ (.int .i64 (E i / 1000000000))).setCell ⟨w.heap.size, i * 9 + 8, none⟩ (.pointer none)) := by
  obtain ⟨cs, hcs, hcsz⟩ := hblk
  have hN : w.heap.size < wr.heap.size := (Array.getElem?_eq_some_iff.1 hcs).1
  have hm : wr.heap.size ≤ wm.heap.size ∧ wm.os = wr.os ∧ wm.tape = wr.tape ∧ wm.output = wr.output ∧ ∀ k, k < wr.heap.size → wm.heap[k]? = wr.heap[k]? := by
    rcases hgr with h | ⟨r, hr, h⟩
    · exact ⟨h.size, h.os, h.tape, h.output, fun k hk => h.block k hk (by simp)⟩
    · exact ⟨h.size, h.os, h.tape, h.output, fun k hk => h.block k hk (fun e => by injection e; omega)⟩
  obtain ⟨hm1, hm2, hm3, hm4, hm5⟩ := hm
  have hbm : Below wr.heap.size wr wm := ⟨hm2, hm3, hm4, hm1, hm5⟩
  have hNm : w.heap.size < wm.heap.size := Nat.lt_of_lt_of_le hN hm1
  have hf3 : Fr w.heap.size (i * 9) (i * 9 + 9) wm (((w2.setCell ⟨w.heap.size, i * 9 + 6, none⟩ (.int .u64 (E i % 1000000000))).setCell ⟨w.heap.size, i * 9 + 7, none⟩ (.int .i64 (E i / 1000000000))).setCell ⟨w.heap.size, i * 9 + 8, none⟩ (.pointer none)) :=
    ((hfr.set (i * 9 + 6) (by omega) (by omega) _).set (i * 9 + 7) (by omega) (by omega) _).set (i * 9 + 8) (by omega) (by omega) _
  have hB3 : Below w.heap.size wm (((w2.setCell ⟨w.heap.size, i * 9 + 6, none⟩ (.int .u64 (E i % 1000000000))).setCell ⟨w.heap.size, i * 9 + 7, none⟩ (.int .i64 (E i / 1000000000))).setCell ⟨w.heap.size, i * 9 + 8, none⟩ (.pointer none)) := hf3.below (Nat.le_refl _) hNm
  have hBr := (hbm.mono (Nat.le_of_lt hN)).trans hB3
  refine ⟨hbel.trans hBr, ?_, fun j hj => ?_⟩
  · obtain ⟨cs', h1, h2⟩ := hf3.shape cs ((hm5 _ hN).trans hcs)
    exact ⟨cs', h1, h2.trans hcsz⟩
  · rcases Nat.lt_succ_iff_lt_or_eq.1 hj with hj | rfl
    · refine (hdone j hj).kept (fun q hq => ?_) (fun r hr hrl => ?_) hBr
      · rw [hf3.cell _ (Or.inl (by omega))]
        exact hbm.cell (p := ⟨w.heap.size, _, none⟩) hN
      · rw [hf3.block r (by omega) (by omega)]
        exact hm5 r hrl
    · refine ⟨⟨mv, ?_, htgt.kept (fun r hr hrl => hf3.block r (by omega) hrl) hB3⟩, ?_, ?_, ?_, ?_, ?_, ?_⟩
      · exact cell_set_ne (cell_set_ne (cell_set_ne c2 (by omega)) (by omega)) (by omega)
      · exact cell_set_ne (cell_set_ne (cell_set_ne c3 (by omega)) (by omega)) (by omega)
      · exact cell_set_ne (cell_set_ne (cell_set_ne c4 (by omega)) (by omega)) (by omega)
      · exact cell_set_ne (cell_set_ne (cell_set_ne c5 (by omega)) (by omega)) (by omega)
      · exact cell_set_ne (cell_set_ne (cell_set_eq k6) (by omega)) (by omega)
      · exact cell_set_ne (cell_set_eq (cell_set_ne k7 (by omega))) (by omega)
      · exact cell_set_eq (cell_set_ne (cell_set_ne k8 (by omega)) (by omega))

set_option maxRecDepth 100000 in
set_option maxHeartbeats 1000000 in
theorem build_walk (a : Option Addr) (len cap : Nat) (S E : Nat → Int) (hl : (len : Int) ≤ 512) (w : World) (hA : Arg w w.heap.size a len S E) :
    Calls Yba.prog 6 #[.slice a len cap] w fun e w' => e = .returned (.slice (some ⟨w.heap.size, 0, none⟩) len len) ∧ BRel w len S E len w' := by
  obtain ⟨i0, hi, hz0, hz1, hz2⟩ := info_parts Yba.info53
  have hmk := run_make (P := Yba.prog) w 24 53 i0 _ Yba.underlying24 hi hz0 .i64 .i64 len len (by omega) (Int.le_refl _) (by rw [hz2]; omega) (by omega)
  rw [hz1, Int.toNat_natCast] at hmk
  have hmm := @run_makeMap Yba.prog
  go_enter Yba.func6, Yba.ntmps6
  go_wp2
  go_loopg [14] (len + 1) (fun k vi wr => ∃ i : Nat, vi = .int .i64 i ∧ i ≤ len ∧ len - i < k ∧ BRel w len S E i wr)
  case atStart =>
    refine ⟨0, rfl, Nat.zero_le _, by omega, ⟨(Below.refl _ _).alloc (Nat.le_refl _) _, ⟨_, (MapKept.heap_alloc w _).1, size_madeCells _ _⟩, fun j hj => absurd hj (Nat.not_lt_zero _)⟩⟩
  case round =>
    obtain ⟨i, rfl, hi', hk, hR⟩ := hrel
    by_cases hlt : i < len
    · obtain ⟨hbel, ⟨cs, hcs, hcsz⟩, hdone⟩ := hR
      obtain ⟨b, off, rfl, he⟩ := (hA.kept hbel) i hlt
      obtain ⟨hbB, ⟨nv, n1, n2⟩, ⟨vv, v1, v2⟩, st, fi, s0, s1, e0, e1⟩ := he
      have hNlt : w.heap.size < wr.heap.size := (Array.getElem?_eq_some_iff.1 hcs).1
      obtain ⟨⟨u0, k0⟩, f0⟩ := cells_of_blk hcs hcsz (i * 9) (by omega)
      obtain ⟨⟨u1, k1⟩, f1⟩ := cells_of_blk hcs hcsz (i * 9 + 1) (by omega)
      obtain ⟨⟨u2, k2⟩, f2⟩ := cells_of_blk hcs hcsz (i * 9 + 2) (by omega)
      obtain ⟨⟨u3, k3⟩, f3⟩ := cells_of_blk hcs hcsz (i * 9 + 3) (by omega)
      obtain ⟨⟨u4, k4⟩, f4⟩ := cells_of_blk hcs hcsz (i * 9 + 4) (by omega)
      obtain ⟨⟨u5, k5⟩, f5⟩ := cells_of_blk hcs hcsz (i * 9 + 5) (by omega)
      obtain ⟨⟨u6, k6⟩, f6⟩ := cells_of_blk hcs hcsz (i * 9 + 6) (by omega)
      obtain ⟨⟨u7, k7⟩, f7⟩ := cells_of_blk hcs hcsz (i * 9 + 7) (by omega)
      obtain ⟨⟨u8, k8⟩, f8⟩ := cells_of_blk hcs hcsz (i * 9 + 8) (by omega)
      obtain ⟨na, nl, nc, rfl, hnl, hn⟩ := n2
      have A : Aside (Below w.heap.size w wr ∧ wr.heap[w.heap.size]? = some (.cells cs 53 (0, 0)) ∧ cs.size = len * 9 ∧ (∀ j, j < i → Con wr w.heap.size w.heap.size S E j)) := ⟨hbel, hcs, hcsz, hdone⟩
      clear hbel hcs hcsz hdone
      by_cases hz : nl = 0
      · subst hz; clear hn v2 hmm
        go_wp2_with fail
        refine (add_any (S i) s0 s1 _).mono ?_
        rintro e w1 ⟨rfl, hb1⟩
        obtain ⟨hfr1, c2⟩ := mid1 hNlt k2 hb1
        clear hb1
        obtain ⟨hbel, hcs, hcsz, hdone⟩ := A.out
        obtain ⟨cs1, hcs1, hcsz1⟩ := hfr1.shape cs hcs
        rw [hcsz] at hcsz1
        have hfi1 := (hfr1.block b (by omega) (by omega))
        have fi1 : w1.cell? ⟨b, off + i * 4 + 3, none⟩ = some (.int .i64 (E i)) := (World.cell?_of_block (w := wr) hfi1).trans fi
        obtain ⟨⟨u3', k3'⟩, f3'⟩ := cells_of_blk hcs1 hcsz1 (i * 9 + 3) (by omega)
        obtain ⟨⟨u4', k4'⟩, f4'⟩ := cells_of_blk hcs1 hcsz1 (i * 9 + 4) (by omega)
        obtain ⟨⟨u5', k5'⟩, f5'⟩ := cells_of_blk hcs1 hcsz1 (i * 9 + 5) (by omega)
        have hN1 : w.heap.size < w1.heap.size := Nat.lt_of_lt_of_le hNlt hfr1.size
        have A1 : Aside (Fr w.heap.size (i * 9) (i * 9 + 9) wr w1 ∧ w1.heap[w.heap.size]? = some (.cells cs1 53 (0, 0)) ∧ cs1.size = len * 9 ∧ w1.cell? ⟨w.heap.size, i * 9 + 2, none⟩ = some (.map none)) := ⟨hfr1, hcs1, hcsz1, c2⟩
        clear hbel hcs hcsz hdone hfr1 hcs1 hcsz1 hfi1 c2 k0 k1 k2 k3 k4 k5 k6 k7 k8 f0 f1 f2 f3 f4 f5 f6 f7 f8 n1 v1 st fi
        go_wp2_with fail
        refine (add_any (E i) e0 e1 _).mono ?_
        rintro e w2 ⟨rfl, hb2⟩
        obtain ⟨hfr1, hcs1, hcsz1, c2⟩ := A1.out
        obtain ⟨hfr2, c2', c3', c4', c5'⟩ := mid2 hN1 c2 k3' k4' k5' hb2
        clear hb2
        obtain ⟨cs2, hcs2, hcsz2⟩ := hfr2.shape cs1 hcs1
        rw [hcsz1] at hcsz2
        obtain ⟨⟨u6', k6'⟩, f6'⟩ := cells_of_blk hcs2 hcsz2 (i * 9 + 6) (by omega)
        obtain ⟨⟨u7', k7'⟩, f7'⟩ := cells_of_blk hcs2 hcsz2 (i * 9 + 7) (by omega)
        obtain ⟨⟨u8', k8'⟩, f8'⟩ := cells_of_blk hcs2 hcsz2 (i * 9 + 8) (by omega)
        have R := fun hgr htgt => mid3 (wm := wr) (mv := .map none) hlt A.out.1 ⟨cs, A.out.2.1, A.out.2.2.1⟩ A.out.2.2.2 hgr htgt (hfr1.trans hfr2) c2' c3' c4' c5' k6' k7' k8'
        have R2 : Aside _ := R (Or.inl (⟨rfl, rfl, rfl, Nat.le_refl _, fun _ _ _ => rfl⟩)) (Or.inl rfl)
        clear R hfr1 hcs1 hcsz1 hfr2 hcs2 hcsz2 c2 c2' c3' c4' c5' k3' k4' k5' f3' f4' f5' fi1
        go_wp2
        go_roundg (len - i)
        case measure => omega
        case rel => exact ⟨i + 1, by go_num, by omega, by omega, R2.out⟩
      · obtain ⟨wo, rfl⟩ : ∃ wo : World, wo = wr := ⟨_, rfl⟩
        have hnz : (0 : Int) < (nl : Int) := by omega
        have hbw : b < wo.heap.size := by omega
        have hnzb : decide (0 < nl) = true := by simp; omega
        obtain ⟨va, vl, vc, rfl, hvl, hv⟩ := v2
        clear k0 k1 k2 k3 k4 k5 k6 k7 k8 f0 f1 f2 f3 f4 f5 f6 f7 f8
        go_wp2
        go_loopg [31] (nl + 1) (fun k vp wx => ∃ p : Nat, vp = .int .i64 p ∧ p ≤ nl ∧ nl - p < k ∧ MapOf wx wo.heap.size Name4 (Strs wx w.heap.size) ∧ wo.grownBy wx (some wo.heap.size) ∧ wx.heap.size = wo.heap.size + 1)
        case atStart => exact ⟨0, rfl, Nat.zero_le _, by omega, MapOf.made _ _ _, World.grownBy_alloc _ _ _, by simp⟩
        case round =>
          obtain ⟨p, rfl, hp, hkp, hM, hg, hsz⟩ := hrel
          have hbx : Below wo.heap.size wo wr := ⟨hg.os, hg.tape, hg.output, hg.size, fun k hk => hg.block k hk (fun e => by injection e; omega)⟩
          have hcx : ∀ b o, b < wo.heap.size → wr.cell? ⟨b, o, none⟩ = wo.cell? ⟨b, o, none⟩ := fun b o h => hbx.cell (p := ⟨b, o, none⟩) h
          have v1x : wr.cell? ⟨b, off + i * 4 + 1, none⟩ = some (.slice va vl vc) := (hcx _ _ (by omega)).trans v1
          by_cases hpl : p < nl
          · obtain ⟨nb, no, nu, rfl, hnb, hnu, ⟨nn, rfl, hn0, hn1⟩⟩ := hn p hpl
            have hnx : wr.cell? ⟨nb, no + p, none⟩ = some (.int .u8 nn) := (hcx _ _ (by omega)).trans hnu
            by_cases hpv : p < vl
            · obtain ⟨vb, vo, vu, rfl, hvb, hvu, hvs⟩ := hv p hpv
              have hvx : wr.cell? ⟨vb, vo + p, none⟩ = some vu := (hcx _ _ (by omega)).trans hvu
              have hvs' : Strs wr w.heap.size vu := SliceOf.kept hvs (hbx.mono (by omega)) fun _ h => h
              obtain ⟨ua, ul, uc, hu, hul, _⟩ := hvs
              subst hu
              have A2 : Aside (MapOf wr wo.heap.size Name4 (Strs wr w.heap.size) ∧ wo.grownBy wr (some wo.heap.size) ∧ wr.heap.size = wo.heap.size + 1 ∧ Strs wr w.heap.size (.slice ua ul uc)) := ⟨hM, hg, hsz, hvs'⟩
              clear hM hg hsz hvs' hbx hcx
              go_wp2_with fail
              refine (name_walk _ _).mono ?_
              rintro e w1 ⟨ns, rfl, hns, rfl⟩
              obtain ⟨hM, hg, hsz, hvs'⟩ := A2.out
              obtain ⟨w2, hrun, hM2, hg2, hs2⟩ := hM.store (t := 47) Yba.underlying47 hns.size hns hvs'
              have hB2 : Below w.heap.size w1 w2 := ⟨hg2.os, hg2.tape, hg2.output, hg2.size, fun k hk => hg2.block k (by omega) (fun e => by injection e; omega)⟩
              have R : Aside (MapOf w2 wo.heap.size Name4 (Strs w2 w.heap.size) ∧ wo.grownBy w2 (some wo.heap.size) ∧ w2.heap.size = wo.heap.size + 1) :=
                ⟨hM2.block rfl fun v hv => SliceOf.kept hv hB2 fun _ h => h, hg.trans hg2, by omega⟩
              clear hM hg hsz hvs' hM2 hg2 hs2 hB2
              go_wp2
              go_roundg (nl - p)
              case measure => omega
              case rel => exact ⟨p + 1, by go_num, by omega, by omega, R.out.1, R.out.2.1, R.out.2.2⟩
            · have A2 : Aside (MapOf wr wo.heap.size Name4 (Strs wr w.heap.size) ∧ wo.grownBy wr (some wo.heap.size) ∧ wr.heap.size = wo.heap.size + 1 ∧ Strs wr w.heap.size (.slice none 0 0)) :=
                ⟨hM, hg, hsz, none, 0, 0, rfl, by decide, fun j hj => absurd hj (Nat.not_lt_zero _)⟩
              clear hM hg hsz hbx hcx
              go_wp2_with fail
              refine (name_walk _ _).mono ?_
              rintro e w1 ⟨ns, rfl, hns, rfl⟩
              obtain ⟨hM, hg, hsz, hvs'⟩ := A2.out
              obtain ⟨w2, hrun, hM2, hg2, hs2⟩ := hM.store (t := 47) Yba.underlying47 hns.size hns hvs'
              have hB2 : Below w.heap.size w1 w2 := ⟨hg2.os, hg2.tape, hg2.output, hg2.size, fun k hk => hg2.block k (by omega) (fun e => by injection e; omega)⟩
              have R : Aside (MapOf w2 wo.heap.size Name4 (Strs w2 w.heap.size) ∧ wo.grownBy w2 (some wo.heap.size) ∧ w2.heap.size = wo.heap.size + 1) :=
                ⟨hM2.block rfl fun v hv => SliceOf.kept hv hB2 fun _ h => h, hg.trans hg2, by omega⟩
              clear hM hg hsz hvs' hM2 hg2 hs2 hB2
              go_wp2
              go_roundg (nl - p)
              case measure => omega
              case rel => exact ⟨p + 1, by go_num, by omega, by omega, R.out.1, R.out.2.1, R.out.2.2⟩
          · obtain rfl : p = nl := by omega
            obtain ⟨hbel, hcs, hcsz, hdone⟩ := A.out
            have hNx : w.heap.size < wr.heap.size := by omega
            have hcsx : wr.heap[w.heap.size]? = some (.cells cs 53 (0, 0)) := (hbx.block _ hNlt).trans hcs
            have stx : wr.cell? ⟨b, off + i * 4 + 2, none⟩ = some (.int .i64 (S i)) := (hcx _ _ (by omega)).trans st
            have fix : wr.cell? ⟨b, off + i * 4 + 3, none⟩ = some (.int .i64 (E i)) := (hcx _ _ (by omega)).trans fi
            obtain ⟨⟨u0, k0⟩, f0⟩ := cells_of_blk hcsx hcsz (i * 9) (by omega)
            obtain ⟨⟨u1, k1⟩, f1⟩ := cells_of_blk hcsx hcsz (i * 9 + 1) (by omega)
            obtain ⟨⟨u2, k2⟩, f2⟩ := cells_of_blk hcsx hcsz (i * 9 + 2) (by omega)
            obtain ⟨⟨u3, k3⟩, f3⟩ := cells_of_blk hcsx hcsz (i * 9 + 3) (by omega)
            obtain ⟨⟨u4, k4⟩, f4⟩ := cells_of_blk hcsx hcsz (i * 9 + 4) (by omega)
            obtain ⟨⟨u5, k5⟩, f5⟩ := cells_of_blk hcsx hcsz (i * 9 + 5) (by omega)
            obtain ⟨⟨u6, k6⟩, f6⟩ := cells_of_blk hcsx hcsz (i * 9 + 6) (by omega)
            obtain ⟨⟨u7, k7⟩, f7⟩ := cells_of_blk hcsx hcsz (i * 9 + 7) (by omega)
            obtain ⟨⟨u8, k8⟩, f8⟩ := cells_of_blk hcsx hcsz (i * 9 + 8) (by omega)
            have A2 : Aside (MapOf wr wo.heap.size Name4 (Strs wr w.heap.size) ∧ wo.grownBy wr (some wo.heap.size) ∧ wr.heap.size = wo.heap.size + 1 ∧ wr.heap[w.heap.size]? = some (.cells cs 53 (0, 0))) := ⟨hM, hg, hsz, hcsx⟩
            clear hbel hcs hcsz hdone hM hg hbx hcx hcsx hn hv
            go_wp2_with fail
            refine (add_any (S i) s0 s1 _).mono ?_
            rintro e w1 ⟨rfl, hb1⟩
            obtain ⟨hfr1, c2⟩ := mid1 hNx k2 hb1
            clear hb1
            obtain ⟨hMx, hgx, hszx, hcsx⟩ := A2.out
            obtain ⟨hbel, hcs, hcsz, hdone⟩ := A.out
            obtain ⟨cs1, hcs1, hcsz1⟩ := hfr1.shape cs hcsx
            rw [hcsz] at hcsz1
            have hfi1 := (hfr1.block b (by omega) (by omega))
            have fi1 : w1.cell? ⟨b, off + i * 4 + 3, none⟩ = some (.int .i64 (E i)) := (World.cell?_of_block (w := wr) hfi1).trans fix
            obtain ⟨⟨u3', k3'⟩, f3'⟩ := cells_of_blk hcs1 hcsz1 (i * 9 + 3) (by omega)
            obtain ⟨⟨u4', k4'⟩, f4'⟩ := cells_of_blk hcs1 hcsz1 (i * 9 + 4) (by omega)
            obtain ⟨⟨u5', k5'⟩, f5'⟩ := cells_of_blk hcs1 hcsz1 (i * 9 + 5) (by omega)
            have hN1 : w.heap.size < w1.heap.size := Nat.lt_of_lt_of_le hNx hfr1.size
            have A1 : Aside (Fr w.heap.size (i * 9) (i * 9 + 9) wr w1 ∧ w1.heap[w.heap.size]? = some (.cells cs1 53 (0, 0)) ∧ cs1.size = len * 9 ∧ w1.cell? ⟨w.heap.size, i * 9 + 2, none⟩ = some (.map (some wo.heap.size))) := ⟨hfr1, hcs1, hcsz1, c2⟩
            clear hbel hcs hcsz hdone hfr1 hcs1 hcsz1 hfi1 c2 k0 k1 k2 k3 k4 k5 k6 k7 k8 f0 f1 f2 f3 f4 f5 f6 f7 f8 n1 v1 st fi stx fix v1x hMx hgx hszx hcsx
            go_wp2_with fail
            refine (add_any (E i) e0 e1 _).mono ?_
            rintro e w2 ⟨rfl, hb2⟩
            obtain ⟨hfr1, hcs1, hcsz1, c2⟩ := A1.out
            obtain ⟨hfr2, c2', c3', c4', c5'⟩ := mid2 hN1 c2 k3' k4' k5' hb2
            clear hb2
            obtain ⟨cs2, hcs2, hcsz2⟩ := hfr2.shape cs1 hcs1
            rw [hcsz1] at hcsz2
            obtain ⟨⟨u6', k6'⟩, f6'⟩ := cells_of_blk hcs2 hcsz2 (i * 9 + 6) (by omega)
            obtain ⟨⟨u7', k7'⟩, f7'⟩ := cells_of_blk hcs2 hcsz2 (i * 9 + 7) (by omega)
            obtain ⟨⟨u8', k8'⟩, f8'⟩ := cells_of_blk hcs2 hcsz2 (i * 9 + 8) (by omega)
            have R := fun hgr htgt => mid3 (wm := wr) (mv := .map (some wo.heap.size)) hlt A.out.1 ⟨cs, A.out.2.1, A.out.2.2.1⟩ A.out.2.2.2 hgr htgt (hfr1.trans hfr2) c2' c3' c4' c5' k6' k7' k8'
            have R2 : Aside _ := R (Or.inr ⟨_, Nat.le_refl _, A2.out.2.1⟩) (Or.inr ⟨_, hNlt, rfl, A2.out.1⟩)
            clear R hfr1 hcs1 hcsz1 hfr2 hcs2 hcsz2 c2 c2' c3' c4' c5' k3' k4' k5' f3' f4' f5' fi1
            go_wp2
            go_roundg (len - i)
            case measure => omega
            case rel => exact ⟨i + 1, by go_num, by omega, by omega, R2.out⟩
    · obtain rfl : i = len := by omega
      have A : Aside (BRel w i S E i wr) := hR
      clear hR
      go_wp2
      go_ret
      exact ⟨rfl, A.out⟩
end Go.Proofs.Ybulkcela
