/-
  LawS4032CSingleStep: the small callees: floorMod, identity, thenInto, then, pow (seat b4032aZ).
-/
import Derived.Test.YbulkcemcGreatRows
import Derived.WalkKit
import Derived.Laws.Rows
import Derived.WalkSpells
import Derived.WalkLawsBesides
import Derived.Outline
import Derived.Handy
import Derived.Deep.QuietTactic
import Derived.BigQuiet
import Derived.Deep.LoopGhost
import Derived.Laws.Pointers
import Derived.Lib.SmallJoins
import Derived.Deep.MidRow
import Derived.BigRegion
namespace Go.Proofs.YbulkcemcGreat
open Go.RowKit

theorem alloc_at (w : World) (o : Obj) (k : Nat) : (w.alloc o).heap[k]? = if k = w.heap.size then some o else w.heap[k]? := by
  by_cases h : k = w.heap.size
  · subst h; rw [if_pos rfl]; exact (MapKept.heap_alloc _ _).1
  · rw [if_neg h]
    by_cases h2 : k < w.heap.size
    · exact Below.heap_alloc _ _ _ h2
    · rw [Array.getElem?_eq_none (by simp; omega), Array.getElem?_eq_none (by omega)]

theorem below_drewN (B : Nat) (w : World) (n : Nat) : Below B w (w.drewN n) := ⟨rfl, rfl, rfl, Nat.le_refl _, fun _ _ => rfl⟩

theorem tmod_pos (x m : Int) (hm : 0 < m) (h : 0 ≤ x.tmod m) : x.tmod m = x % m := by
  have e := Int.mul_tdiv_add_tmod x m
  have h2 := Int.tmod_lt_of_pos x hm
  conv => rhs; rw [← e, Int.add_comm, Int.add_mul_emod_self_left]
  exact (Int.emod_eq_of_lt h h2).symm
theorem tmod_neg (x m : Int) (hm : 0 < m) (hm2 : m ≤ 1000) (h : x.tmod m < 0) : wrap64 (x.tmod m + m) = x % m := by
  have e := Int.mul_tdiv_add_tmod x m
  have h2 := Int.lt_tmod_of_pos x hm
  have e2 : x % m = x.tmod m + m := by
    conv => lhs; rw [← e, Int.add_comm, Int.add_mul_emod_self_left]
    rw [← Int.add_emod_right (x.tmod m) m]
    exact Int.emod_eq_of_lt (by omega) (by omega)
  rw [e2]
  unfold wrap64
  omega

set_option maxHeartbeats 1000000 in
theorem floorMod (x m : Int) (w : World) (hm : 0 < m) (hm2 : m ≤ 1000) :
    Calls Ybaz.prog 12 #[.int .i64 x, .int .i64 m] w fun e w' => e = .returned (.int .i64 (x % m)) ∧ w' = w := by
  have hm0 : (m == 0) = false := by simp; omega
  go_enter Ybaz.func12, Ybaz.ntmps12
  go_wp2
  · rename_i h
    go_ret
    exact ⟨by rw [← tmod_neg x m hm hm2 h]; rfl, rfl⟩
  · rename_i h
    go_ret
    exact ⟨by rw [← tmod_pos x m hm h]; rfl, rfl⟩

set_option maxHeartbeats 1000000 in
theorem zmod (x m : Int) (w : World) (hm : 0 < m) (hm2 : m ≤ 1000) :
    Calls Ybaz.prog 7 #[.int .i64 x, .int .i64 m] w fun e w' => e = .returned (.int .i64 (x % m)) ∧ w' = w := by
  have hm0 : (m == 0) = false := by simp; omega
  go_enter Ybaz.func7, Ybaz.ntmps7
  go_wp2
  · rename_i h
    go_ret
    exact ⟨by rw [← tmod_neg x m hm hm2 h]; rfl, rfl⟩
  · rename_i h
    go_ret
    exact ⟨by rw [← tmod_pos x m hm h]; rfl, rfl⟩

/-! ### Maps of indices -/
/-- A map in memory. -/
def MapAt (w : World) (v : Value) (f : List Nat) : Prop :=
  ∃ g c, v = .slice (some ⟨g, 0, none⟩) f.length c ∧ g < w.heap.size ∧ ∀ (j x : Nat), f[j]? = some x → w.cell? ⟨g, j, none⟩ = some (.int .i64 x)

theorem MapAt.below {w w' : World} {v : Value} {f : List Nat} {B : Nat} (h : MapAt w v f) (hb : Below B w w') (hB : w.heap.size ≤ B) : MapAt w' v f := by
  obtain ⟨g, c, e, hg, hc⟩ := h
  exact ⟨g, c, e, by have := hb.size; omega, fun j x hj => (hb.cell (p := ⟨g, j, none⟩) (by show g < B; omega)).trans (hc j x hj)⟩

theorem info3 : (Ybaz.prog.info? 3).map (fun i => (i.zero, i.size, i.bytes)) = some (some (.int .i64 0), 1, 8) := by kernel_rfl

/-- What make gives, for a map of n. -/
theorem make33 (w : World) (n : Nat) (hn : n ≤ 256) : ∃ zc : Array Value, zc.size = n ∧ (Instr.makeSlice 33 (.int .i64 n) (.int .i64 n)).run Ybaz.prog w = .ok (.slice (some ⟨w.heap.size, 0, none⟩) n n) (w.alloc (.cells zc 3)) := by
  obtain ⟨i0, hi, hz0, hz1, hz2⟩ := info_parts info3
  have hmk := run_make (P := Ybaz.prog) w 33 3 i0 _ Ybaz.underlying33 hi hz0 .i64 .i64 n n (by omega) (Int.le_refl _) (by rw [hz2]; omega) (by omega)
  rw [hz1, Nat.mul_one] at hmk
  simp only [Int.toNat_natCast] at hmk
  exact ⟨_, size_madeCells _ _, hmk⟩

/-- A map that is being filled. -/
structure Filling (w wr : World) (b n i : Nat) (val : Nat → Nat) : Prop where
  below : Below b w wr
  cells : ∃ cur : Array Value, wr.heap[b]? = some (.cells cur 3 (0, 0)) ∧ cur.size = n ∧ ∀ j, j < i → cur[j]? = some (.int .i64 (val j))

theorem Filling.step {w wr : World} {b n i : Nat} {val : Nat → Nat} (h : Filling w wr b n i val) (hi : i < n) : Filling w (wr.setCell ⟨b, i, none⟩ (.int .i64 (val i))) b n (i + 1) val := by
  obtain ⟨hb, cur, hc, hs, hd⟩ := h
  refine ⟨hb.setCell (p := ⟨b, i, none⟩) (Nat.le_refl _) _, cur.setIfInBounds i (.int .i64 (val i)), Joins.block_setCell (i := i) hc _, by simpa using hs, fun j hj => ?_⟩
  rw [Array.getElem?_setIfInBounds]
  by_cases e : i = j
  · subst e; rw [if_pos rfl, if_pos (by omega)]
  · rw [if_neg e]; exact hd j (by omega)

theorem Filling.done {w wr : World} {b : Nat} {f : List Nat} (h : Filling w wr b f.length f.length (fun j => f.getD j 0)) (c : Nat) : MapAt wr (.slice (some ⟨b, 0, none⟩) f.length c) f := by
  obtain ⟨hb, cur, hc, hs, hd⟩ := h
  refine ⟨b, c, rfl, (Array.getElem?_eq_some_iff.1 hc).1, fun j x hj => ?_⟩
  have hlt := (List.getElem?_eq_some_iff.1 hj).1
  rw [Joins.cell_of_block hc, hd j hlt]
  simp [List.getD, hj]

set_option maxHeartbeats 1000000 in
theorem identity (n : Nat) (hn : n ≤ 256) (w : World) :
    Calls Ybaz.prog 42 #[.int .i64 n] w fun e w' => ∃ v, e = .returned v ∧ MapAt w' v (List.range n) ∧ Below w.heap.size w w' := by
  obtain ⟨zc, hzs, hmk⟩ := make33 w n hn
  go_enter Ybaz.func42, Ybaz.ntmps42
  go_wp2
  clear hmk
  go_loopg [9] (n + 1) (fun q vi wr => ∃ i : Nat, vi = .int .i64 i ∧ i ≤ n ∧ n - i < q ∧ Filling w wr w.heap.size n i (fun j => j))
  case atStart => exact ⟨0, rfl, Nat.zero_le _, by omega, (Below.refl _ _).alloc (Nat.le_refl _) _, zc, by rw [alloc_at, if_pos rfl], hzs, fun j hj => absurd hj (Nat.not_lt_zero _)⟩
  case round =>
    obtain ⟨i, rfl, hin, hq, hF⟩ := hrel
    by_cases hlt : i < n
    · have A : Aside (Filling w wr w.heap.size n i (fun j => j)) := hF
      obtain ⟨hb, cur, hc, hs, hd⟩ := hF
      have hlt' : (i : Int) < (n : Int) := by omega
      have hc1 : wr.cell? ⟨w.heap.size, i, none⟩ = some cur[i] := (Joins.cell_of_block hc _).trans (by simp [hs, hlt])
      have hf1 := Joins.unfrozen_of_block hc i
      clear hb hc hd
      generalize cur[i] = old at hc1
      go_wp2
      go_roundg (n - i)
      case measure => omega
      case rel => exact ⟨i + 1, by go_num, by omega, by omega, A.out.step hlt⟩
    · obtain rfl : i = n := by omega
      go_wp2
      go_ret
      refine ⟨_, rfl, ?_, hF.below⟩
      have h2 : Filling w wr w.heap.size (List.range i).length (List.range i).length (fun j => (List.range i).getD j 0) := by
        obtain ⟨hb, cur, hc, hs, hd⟩ := hF
        refine ⟨hb, cur, hc, by simpa using hs, fun j hj => ?_⟩
        simp only [List.length_range] at hj
        rw [hd j hj]
        simp [List.getD, hj]
      have := h2.done i
      simpa using this

/-- First f, then g. -/
def thenL (f g : List Nat) : List Nat := f.map fun j => g.getD j 0
theorem thenL_length (f g : List Nat) : (thenL f g).length = f.length := by simp [thenL]

set_option maxHeartbeats 1000000 in
theorem thenInto (f g : List Nat) (vf vg : Value) (b : Nat) (w : World) (hf : MapAt w vf f) (hg : MapAt w vg g) (hlt : ∀ j ∈ f, j < g.length) (hfb : f.length ≤ 256)
    (hbf : ∀ q, vf.ownBlock = some q → q < b) (hbg : ∀ q, vg.ownBlock = some q → q < b) (cur : Array Value) (hc : w.heap[b]? = some (.cells cur 3 (0, 0))) (hcs : cur.size = f.length) :
    Calls Ybaz.prog 44 #[vf, vg, .slice (some ⟨b, 0, none⟩) f.length f.length] w fun e w' => (∃ v, e = .returned v) ∧ Filling w w' b f.length f.length (fun j => (thenL f g).getD j 0) := by
  obtain ⟨p, c, rfl, hp, hpc⟩ := hf
  obtain ⟨q, c2, rfl, hq, hqc⟩ := hg
  have hpb := hbf p rfl
  have hqb := hbg q rfl
  go_enter Ybaz.func44, Ybaz.ntmps44
  go_wp2
  go_loopg [10] (f.length + 1) (fun z vi wr => ∃ i : Nat, vi = .int .i64 i ∧ i ≤ f.length ∧ f.length - i < z ∧ Filling w wr b f.length i (fun j => (thenL f g).getD j 0))
  case atStart => exact ⟨0, rfl, Nat.zero_le _, by omega, Below.refl _ _, cur, hc, hcs, fun j hj => absurd hj (Nat.not_lt_zero _)⟩
  case round =>
    obtain ⟨i, rfl, hin, hz, hF⟩ := hrel
    by_cases hil : i < f.length
    · have A : Aside (Filling w wr b f.length i (fun j => (thenL f g).getD j 0)) := hF
      obtain ⟨hb, cu, hcu, hs, hd⟩ := hF
      have hil' : (i : Int) < (f.length : Int) := by omega
      have hj : f[i]? = some f[i] := List.getElem?_eq_getElem hil
      have hjg : f[i] < g.length := hlt _ (List.getElem_mem hil)
      have hj2 : g[f[i]]? = some g[f[i]] := List.getElem?_eq_getElem hjg
      have c1 : wr.cell? ⟨p, i, none⟩ = some (.int .i64 f[i]) := (hb.cell (p := ⟨p, i, none⟩) hpb).trans (hpc i _ hj)
      have c2 : wr.cell? ⟨q, f[i], none⟩ = some (.int .i64 g[f[i]]) := (hb.cell (p := ⟨q, f[i], none⟩) hqb).trans (hqc _ _ hj2)
      have hc1 : wr.cell? ⟨b, i, none⟩ = some cu[i] := (Joins.cell_of_block hcu _).trans (by simp [hs, hil])
      have hf1 := Joins.unfrozen_of_block hcu i
      have hval : (thenL f g).getD i 0 = g[f[i]] := by simp [thenL, List.getD, hil, hjg]
      clear hb hcu hd hpc hqc hj hj2 hlt
      generalize cu[i] = old at hc1
      generalize f[i] = x at *
      have hjg' : (x : Int) < (g.length : Int) := by omega
      generalize g[x] = y at *
      go_wp2
      go_roundg (f.length - i)
      case measure => omega
      case rel =>
        refine ⟨i + 1, by go_num, by omega, by omega, ?_⟩
        have := A.out.step hil
        rw [hval] at this
        exact this
    · obtain rfl : i = f.length := by omega
      go_wp2
      go_end0
      exact ⟨⟨_, rfl⟩, hF⟩

set_option maxHeartbeats 1000000 in
theorem thenM (f g : List Nat) (vf vg : Value) (w : World) (hf : MapAt w vf f) (hg : MapAt w vg g) (hlt : ∀ j ∈ f, j < g.length) (hfb : f.length ≤ 256) :
    Calls Ybaz.prog 19 #[vf, vg] w fun e w' => ∃ v, e = .returned v ∧ MapAt w' v (thenL f g) ∧ Below w.heap.size w w' := by
  have hf' := hf
  have hg' := hg
  obtain ⟨p, c, rfl, hp, hpc⟩ := hf
  obtain ⟨q, c2, rfl, hq, hqc⟩ := hg
  clear hpc hqc
  obtain ⟨zc, hzs, hmk⟩ := make33 w f.length hfb
  have hb1 : Below w.heap.size w (w.alloc (.cells zc 3)) := (Below.refl _ _).alloc (Nat.le_refl _) _
  have hin := thenInto f g _ _ w.heap.size (w.alloc (.cells zc 3)) (hf'.below hb1 (Nat.le_refl _)) (hg'.below hb1 (Nat.le_refl _)) hlt hfb (fun z hz => by simp [Value.ownBlock] at hz; omega) (fun z hz => by simp [Value.ownBlock] at hz; omega) zc (by rw [alloc_at, if_pos rfl]) hzs
  clear hf' hg' hlt
  go_enter Ybaz.func19, Ybaz.ntmps19
  go_wp2_with (go_at_call 44; refine hin.mono ?_; rintro e w' ⟨⟨v, rfl⟩, hF⟩)
  go_ret
  refine ⟨_, rfl, ?_, hb1.trans hF.below⟩
  have h2 := hF
  rw [← thenL_length f g] at h2
  have := h2.done f.length
  rw [thenL_length] at this
  exact this

/-- A goal that a walk leaves as it stands. -/
def Veil (p : Prop) : Prop := p
theorem Veil.off {p : Prop} (h : Veil p) : p := h

theorem and_one_i64 (K : Nat) (h : K ≤ 100000) : bits .and .i64 (K : Int) 1 = ((K % 2 : Nat) : Int) := by
  have h1 : (BitVec.ofInt 64 1).toNat = 2 ^ 1 - 1 := by decide
  have key : (BitVec.ofInt 64 (K : Int) &&& BitVec.ofInt 64 1).toNat = ((K : Int) % ((2 ^ 64 : Nat) : Int)).toNat % 2 ^ 1 := by
    rw [BitVec.toNat_and, BitVec.toNat_ofInt, h1, Nat.and_two_pow_sub_one_eq_mod]
  show IntKind.i64.wrap ((BitVec.ofInt 64 (K : Int) &&& BitVec.ofInt 64 1).toNat : Nat) = _
  rw [key, IntKind.wrap_i64]
  omega

/-! ### Powers -/
/-- A map of n indices. -/
structure Ok (n : Nat) (f : List Nat) : Prop where
  len : f.length = n
  lt : ∀ j ∈ f, j < n

theorem Ok.at {n : Nat} {f : List Nat} (h : Ok n f) (i : Nat) (hi : i < n) : f.getD i 0 < n := by
  have hl : i < f.length := by rw [h.len]; exact hi
  rw [List.getD, List.getElem?_eq_getElem hl]
  exact h.lt _ (List.getElem_mem hl)

theorem ok_range (n : Nat) : Ok n (List.range n) := ⟨by simp, fun j hj => List.mem_range.1 hj⟩
theorem Ok.then {n : Nat} {f g : List Nat} (hf : Ok n f) (hg : Ok n g) : Ok n (thenL f g) := by
  refine ⟨by rw [thenL_length, hf.len], fun j hj => ?_⟩
  obtain ⟨i, hi, rfl⟩ := List.mem_map.1 hj
  exact hg.at i (hf.lt i hi)

theorem thenL_assoc {n : Nat} {f g h : List Nat} (hf : Ok n f) (hg : Ok n g) : thenL (thenL f g) h = thenL f (thenL g h) := by
  unfold thenL
  rw [List.map_map]
  refine List.map_congr_left fun j hj => ?_
  have hl : j < g.length := by rw [hg.len]; exact hf.lt j hj
  simp [List.getD, hl]

theorem thenL_range {n : Nat} {f : List Nat} (hf : Ok n f) : thenL f (List.range n) = f := by
  unfold thenL
  refine List.ext_getElem? fun i => ?_
  rw [List.getElem?_map]
  cases h : f[i]? with
  | none => rfl
  | some x =>
    have := hf.lt x (List.mem_of_getElem? h)
    simp [List.getD, this]

theorem range_thenL {n : Nat} {f : List Nat} (hf : Ok n f) : thenL (List.range n) f = f := by
  unfold thenL
  refine List.ext_getElem? fun i => ?_
  rw [List.getElem?_map]
  by_cases hi : i < n
  · have hl : i < f.length := by rw [hf.len]; exact hi
    simp [hi, List.getD, hl]
  · rw [List.getElem?_eq_none (by simp; omega), List.getElem?_eq_none (by rw [hf.len]; omega)]; rfl

/-- k runs of f. -/
def powL (n : Nat) (f : List Nat) : Nat → List Nat
  | 0 => List.range n
  | k + 1 => thenL (powL n f k) f

theorem ok_pow {n : Nat} {f : List Nat} (hf : Ok n f) : ∀ k, Ok n (powL n f k)
  | 0 => ok_range n
  | k + 1 => (ok_pow hf k).then hf

theorem pow_comm {n : Nat} {f : List Nat} (hf : Ok n f) : ∀ k, thenL f (powL n f k) = powL n f (k + 1)
  | 0 => by rw [powL, thenL_range hf, powL, powL, range_thenL hf]
  | k + 1 => by
    rw [powL, ← thenL_assoc hf (ok_pow hf k), pow_comm hf k]
    rfl

theorem pow_two {n : Nat} {f : List Nat} (hf : Ok n f) : ∀ j, powL n (thenL f f) j = powL n f (2 * j)
  | 0 => rfl
  | j + 1 => by
    rw [powL, pow_two hf j, ← thenL_assoc (ok_pow hf _) hf]
    rfl

theorem pow_odd {n : Nat} {m f : List Nat} (hm : Ok n m) (hf : Ok n f) (j : Nat) : thenL (thenL m f) (powL n (thenL f f) j) = thenL m (powL n f (2 * j + 1)) := by
  rw [pow_two hf, thenL_assoc hm hf, pow_comm hf]

set_option maxHeartbeats 1000000 in
theorem powM (n k : Nat) (f : List Nat) (vf : Value) (w : World) (hf : MapAt w vf f) (ho : Ok n f) (hn : n ≤ 256) (hk : k ≤ 100000) :
    Calls Ybaz.prog 18 #[vf, .int .i64 k] w fun e w' => ∃ v, e = .returned v ∧ MapAt w' v (powL n f k) ∧ Below w.heap.size w w' := by
  have hid := identity n hn w
  have hf' := hf
  obtain ⟨p, c, rfl, hp, hpc⟩ := hf
  have hlen := ho.len
  clear hpc
  rw [hlen]
  rw [hlen] at hf'
  go_enter Ybaz.func18, Ybaz.ntmps18
  go_wp2_with (go_at_call 42; refine hid.mono ?_; rintro e w1 ⟨v1, rfl, hm1, hb1⟩)
  clear hid
  go_loopg [0, 1, 5] (k + 1) (fun q v0 vk vm wr => ∃ (K : Nat) (F M : List Nat), vk = .int .i64 K ∧ K < q ∧ K ≤ k ∧ MapAt wr v0 F ∧ MapAt wr vm M ∧ Ok n F ∧ Ok n M ∧ thenL M (powL n F K) = powL n f k ∧ Below w.heap.size w wr)
  case atStart => exact ⟨k, f, List.range n, rfl, by omega, Nat.le_refl _, hf'.below hb1 (Nat.le_refl _), hm1, ho, ok_range n, range_thenL (ok_pow ho k), hb1⟩
  case round =>
    obtain ⟨K, F, M, rfl, hq, hKk, hF, hM, oF, oM, heq, hb⟩ := hrel
    clear hf' hm1 hb1
    have e1 : bits .and .i64 (K : Int) 1 = ((K % 2 : Nat) : Int) := and_one_i64 K (by omega)
    by_cases h0 : K = 0
    · subst h0
      go_wp2
      go_ret
      refine ⟨_, rfl, ?_, hb⟩
      rw [powL, thenL_range oM] at heq
      rw [← heq]
      exact hM
    · have hpos : (0 : Int) < (K : Int) := by omega
      have hFF := thenM F F u0 u0 wr hF hF (fun j hj => by rw [oF.len]; exact oF.lt j hj) (by rw [oF.len]; exact hn)
      by_cases hodd : K % 2 = 1
      · have hMF := thenM M F u5 u0 wr hM hF (fun j hj => by rw [oF.len]; exact oM.lt j hj) (by rw [oM.len]; exact hn)
        rw [hodd] at e1
        go_wp2_with (go_at_call 19; refine hMF.mono ?_; rintro e w2 ⟨v2, rfl, hm2, hb2⟩; refine Veil.off ?_)
        unfold Veil
        clear hMF hFF
        have hFF := thenM F F u0 u0 w2 (hF.below hb2 (Nat.le_refl _)) (hF.below hb2 (Nat.le_refl _)) (fun j hj => by rw [oF.len]; exact oF.lt j hj) (by rw [oF.len]; exact hn)
        go_wp2_with (go_at_call 19; refine hFF.mono ?_; rintro e w3 ⟨v3, rfl, hm3, hb3⟩)
        go_roundg K
        case measure => omega
        case rel =>
          refine ⟨K / 2, thenL F F, thenL M F, ?_, by omega, by omega, hm3, hm2.below hb3 (Nat.le_refl _), oF.then oF, oM.then oF, ?_, hb.trans ((hb2.mono hb.size).trans (hb3.mono (Nat.le_trans hb.size hb2.size)))⟩
          · go_num
          · rw [pow_odd oM oF, ← heq, show 2 * (K / 2) + 1 = K by omega]
      · rw [show K % 2 = 0 by omega] at e1
        go_wp2_with (go_at_call 19; refine hFF.mono ?_; rintro e w3 ⟨v3, rfl, hm3, hb3⟩)
        go_roundg K
        case measure => omega
        case rel =>
          refine ⟨K / 2, thenL F F, M, ?_, by omega, by omega, hm3, hM.below hb3 (Nat.le_refl _), oF.then oF, oM, ?_, hb.trans (hb3.mono hb.size)⟩
          · go_num
          · rw [pow_two oF, ← heq, show 2 * (K / 2) = K by omega]
end Go.Proofs.YbulkcemcGreat
