/-
  LawS4032CSingleStep: '(Phase).Refill' (seat b4032aZ).
-/
import Derived.Test.YbulkcemcGreatSpan
import Derived.Test.YbulkcemcGreatShelf
namespace Go.Proofs.YbulkcemcGreat
open Go.RowKit

/-- Integers in memory, from a block's head. -/
def IntsAt (w : World) (g : Nat) (M : List Int) : Prop := ∀ j, j < M.length → w.cell? ⟨g, j, none⟩ = some (.int .i64 (M.getD j 0))

theorem IntsAt.below {w w' : World} {g : Nat} {M : List Int} {B : Nat} (h : IntsAt w g M) (hb : Below B w w') (hg : g < B) : IntsAt w' g M := fun j hj => (hb.cell (p := ⟨g, j, none⟩) hg).trans (h j hj)

/-- Where in a sorted row of integers. -/
theorem search (g c : Nat) (M : List Int) (x : Int) (w : World) (hM : IntsAt w g M) (hl : M.length ≤ 1000) (hs : M.Pairwise (· ≤ ·)) :
    Calls Ybaz.prog 23 #[.slice (some ⟨g, 0, none⟩) M.length c, .int .i64 x] w fun e w' => e = .returned (.tuple #[.int .i64 (M.countP (· < x) : Nat), .bool (M.contains x)]) ∧ ∃ q, w' = w.drewN q := by
  have h := Any.slices_BinarySearch_int Ybaz.searchI g 0 M.length c M x w (Nat.le_refl _) (by omega) (fun j hj => by rw [Nat.zero_add]; exact hM j hj) (by rw [List.take_length]; exact hs)
  rw [List.take_length] at h
  exact h

def refillI (M : List Int) (sm : Int) : Int := if M.countP (· < sm + 1) = 0 then M.getD (M.length - 1) 0 else M.getD (M.countP (· < sm + 1) - 1) 0

theorem getD_mem {M : List Int} {i : Nat} (h : i < M.length) : M.getD i 0 ∈ M := by
  rw [List.getD, List.getElem?_eq_getElem h]; exact List.getElem_mem h

theorem refillI_mem {M : List Int} (hM : M ≠ []) (sm : Int) : refillI M sm ∈ M := by
  have hl : 0 < M.length := List.length_pos_iff.2 hM
  have hc := List.countP_le_length (p := fun x : Int => decide (x < sm + 1)) (l := M)
  unfold refillI
  split
  · exact getD_mem (by omega)
  · exact getD_mem (by omega)

set_option linter.unusedSimpArgs false in
set_option maxRecDepth 100000 in
set_option maxHeartbeats 1000000 in
theorem refill24 (g c : Nat) (M : List Int) (sm : Int) (w : World) (hM : IntsAt w g M) (hg : g < w.heap.size) (h0 : M ≠ []) (hl : M.length ≤ 1000) (hs : M.Pairwise (· ≤ ·)) (hs0 : 0 ≤ sm) (hs1 : sm ≤ 255) :
    Calls Ybaz.prog 24 #[.agg #[.float .f64 0, .slice (some ⟨g, 0, none⟩) M.length c], .int .i64 sm] w fun e w' => e = .returned (.int .i64 (refillI M sm)) ∧ Below w.heap.size w w' := by
  have hlen : 0 < M.length := List.length_pos_iff.2 h0
  have hcl := List.countP_le_length (p := fun x : Int => decide (x < sm + 1)) (l := M)
  have hsr := fun W (hb : Below w.heap.size w W) => search g c M (sm + 1) W (hM.below hb hg) hl hs
  have hcell : ∀ W, Below w.heap.size w W → ∀ j, j < M.length → W.cell? ⟨g, j, none⟩ = some (.int .i64 (M.getD j 0)) := fun W hb j hj => (hM.below hb hg) j hj
  have hb1 : Below w.heap.size w (w.alloc (.cells #[.float .f64 0, .slice (some ⟨g, 0, none⟩) M.length c] 64)) := (Below.refl _ _).alloc (Nat.le_refl _) _
  have hsr1 := hsr _ hb1
  have hw1 : wrap64 (sm + 1) = sm + 1 := by unfold wrap64; omega
  generalize hi : M.countP (· < sm + 1) = i at hsr1 hcl
  generalize M.contains (sm + 1) = fd at hsr1
  have A : Aside (M.countP (· < sm + 1) = i ∧ ∀ W, Below w.heap.size w W → ∀ j, j < M.length → W.cell? ⟨g, j, none⟩ = some (.int .i64 (M.getD j 0))) := ⟨hi, hcell⟩
  clear hi hcell hsr hM hs
  have hcq : ∀ q j, j < M.length → ((w.alloc (.cells #[.float .f64 0, .slice (some ⟨g, 0, none⟩) M.length c] 64)).drewN q).cell? ⟨g, j, none⟩ = some (.int .i64 (M.getD j 0)) := fun q j hj => A.out.2 _ (hb1.trans (below_drewN _ _ q)) j hj
  by_cases hi0 : i = 0
  · subst hi0
    have hcc := fun q => hcq q (M.length - 1) (by omega)
    have hwl : wrap64 ((M.length : Int) - 1) = ((M.length - 1 : Nat) : Int) := by unfold wrap64; omega
    have hL1 : ((M.length - 1 : Nat) : Int) < (M.length : Int) := by omega
    clear hcq
    go_enter Ybaz.func24, Ybaz.ntmps24
    go_wp2_with (go_at_call 23; refine hsr1.mono ?_; rintro e w' ⟨rfl, q, rfl⟩)
    go_ret
    refine ⟨?_, hb1.trans (below_drewN _ _ _)⟩
    unfold refillI
    rw [if_pos A.out.1]
    simp [List.getD]
  · have hcc := fun q => hcq q (i - 1) (by omega)
    have hne : ((i : Int) == 0) = false := by simp; omega
    have hwl : wrap64 ((i : Int) - 1) = ((i - 1 : Nat) : Int) := by unfold wrap64; omega
    have hL1 : ((i - 1 : Nat) : Int) < (M.length : Int) := by omega
    have hv : refillI M sm = M.getD (i - 1) 0 := by unfold refillI; rw [A.out.1, if_neg hi0]
    clear hcq A
    rw [hv]
    clear hv
    generalize M.getD (i - 1) 0 = val at hcc ⊢
    go_enter Ybaz.func24, Ybaz.ntmps24
    go_wp2_with (go_at_call 23; refine hsr1.mono ?_; rintro e w' ⟨rfl, q, rfl⟩)
    go_ret
    exact ⟨rfl, hb1.trans (below_drewN _ _ _)⟩

theorem store_float (W : World) (a : Addr) (u : Value) (hc : W.cell? a = some u) (hf : W.frozen? a = false) : (store a (.float .f64 0)).run Ybaz.prog W = .ok () (W.setCell a (.float .f64 0)) := by
  rw [run_store Ybaz.prog W a _ _ rfl, hc]
  simp [hf]

/-- Only the block b is turned. -/
structure But (b : Nat) (w w' : World) : Prop where
  size : w.heap.size ≤ w'.heap.size
  same : ∀ j, j ≠ b → j < w.heap.size → w'.heap[j]? = w.heap[j]?
  low : Below b w w'

theorem But.refl (b : Nat) (w : World) : But b w w := ⟨Nat.le_refl _, fun _ _ _ => rfl, Below.refl _ _⟩
theorem But.trans {b : Nat} {w w' w2 : World} (h : But b w w') (k : But b w' w2) : But b w w2 :=
  ⟨Nat.le_trans h.size k.size, fun j h1 h2 => (k.same j h1 (by have := h.size; omega)).trans (h.same j h1 h2), h.low.trans k.low⟩
theorem But.of {b : Nat} {w w' : World} (hb : b ≤ w.heap.size) (h : Below w.heap.size w w') : But b w w' := ⟨h.size, fun j _ hj => h.block j hj, h.mono hb⟩
theorem But.cell {b : Nat} {w w' : World} (h : But b w w') (j o : Nat) (h1 : j ≠ b) (h2 : j < w.heap.size) : w'.cell? ⟨j, o, none⟩ = w.cell? ⟨j, o, none⟩ := World.cell?_of_block (h.same j h1 h2)

/-- What PhasesOf leaves of blocks that all end together: one phase, with these SMs. -/
structure Phased (b : Nat) (M : List Int) (w : World) (v : Value) (w' : World) : Prop where
  but : But b w w'
  row : ∃ pb pc g mc, v = .slice (some ⟨pb, 0, none⟩) 1 pc ∧ pb < w'.heap.size ∧ w'.cell? ⟨pb, 0, none⟩ = some (.float .f64 0) ∧ w'.cell? ⟨pb, 1, none⟩ = some (.slice (some ⟨g, 0, none⟩) M.length mc) ∧ g < w'.heap.size ∧ IntsAt w' g M

def rmapM (S M : List Int) : List Nat := S.map fun sm => S.countP (· < refillI M sm)

theorem countP_lt {S : List Int} {x : Int} (h : x ∈ S) : S.countP (· < x) < S.length := by
  refine Nat.lt_of_le_of_ne (List.countP_le_length) fun e => ?_
  have := (List.countP_eq_length.1 e) x h
  simp at this

theorem ok_rmapM {S M : List Int} (hM : M ≠ []) (hMS : ∀ x ∈ M, x ∈ S) : Ok S.length (rmapM S M) := by
  refine ⟨by simp [rmapM], fun j hj => ?_⟩
  obtain ⟨sm, _, rfl⟩ := List.mem_map.1 hj
  exact countP_lt (hMS _ (refillI_mem hM sm))

set_option linter.unusedSimpArgs false in
set_option maxRecDepth 100000 in
set_option maxHeartbeats 1000000 in
theorem refillMap8 (sb sc b : Nat) (own : Value) (S M : List Int) (w : World) (hS : IntsAt w sb S) (hsb : sb < w.heap.size) (hbs : sb ≠ b) (hbw : b < w.heap.size) (hS0 : 0 < S.length) (hSl : S.length ≤ 256) (hSs : S.Pairwise (· ≤ ·)) (hSr : ∀ x ∈ S, 0 ≤ x ∧ x ≤ 255)
    (hM : M ≠ []) (hMl : M.length ≤ 1000) (hMs : M.Pairwise (· ≤ ·)) (hph : Calls Ybaz.prog 22 #[own] w fun e w2 => ∃ v, e = .returned v ∧ Phased b M w v w2) :
    Calls Ybaz.prog 8 #[.slice (some ⟨sb, 0, none⟩) S.length sc, own] w fun e w' => ∃ v, e = .returned v ∧ MapAt w' v (rmapM S M) ∧ But b w w' ∧ ∀ q, v.ownBlock = some q → w.heap.size ≤ q := by
  go_enter Ybaz.func8, Ybaz.ntmps8
  go_wp2_with (go_at_call 22; refine hph.mono ?_; rintro e w2 ⟨v, rfl, hP⟩; refine Veil.off ?_)
  unfold Veil
  clear hph
  obtain ⟨hbut, pb, pc, g, mc, rfl, hpb, hp0, hp1, hg, hMa⟩ := hP
  have hS2 : IntsAt w2 sb S := fun j hj => (hbut.cell sb j hbs hsb).trans (hS j hj)
  have hsz := hbut.size
  obtain ⟨W3, hW3⟩ : ∃ W3, w2.alloc (.cells #[.float .f64 0, .slice (some ⟨g, 0, none⟩) M.length mc] 64) = W3 := ⟨_, rfl⟩
  obtain ⟨zc, hzs, hmk⟩ := make33 W3 S.length hSl
  have hst := store_float (w2.alloc (.cells #[.float .f64 0, .slice none 0 0] 64)) ⟨w2.heap.size, 0, none⟩ (.float .f64 0) (by simp) (by simp)
  go_wp2
  have hbW3 : Below w2.heap.size w2 W3 := by rw [← hW3]; exact (Below.refl _ _).alloc (Nat.le_refl _) _
  have hx3 : W3.heap[w2.heap.size]? = some (.cells #[.float .f64 0, .slice (some ⟨g, 0, none⟩) M.length mc] 64 (0, 0)) := by rw [← hW3, alloc_at, if_pos rfl]
  have hs3 : W3.heap.size = w2.heap.size + 1 := by rw [← hW3]; simp
  have hM3 := hMa.below hbW3 hg
  have hS3 := hS2.below hbW3 (by omega)
  clear hst hmk hW3
  rw [hs3]
  go_loopg [18] (S.length + 1) (fun q vi wr => ∃ i : Nat, vi = .int .i64 i ∧ i ≤ S.length ∧ S.length - i < q ∧ Filling W3 wr (w2.heap.size + 1) S.length i (fun j => (rmapM S M).getD j 0))
  case atStart => exact ⟨0, rfl, Nat.zero_le _, by omega, (Below.refl _ _).alloc (by omega) _, zc, by rw [alloc_at, if_pos hs3.symm], hzs, fun j hj => absurd hj (Nat.not_lt_zero _)⟩
  case round =>
    obtain ⟨i, rfl, hin, hq, hF⟩ := hrel
    by_cases hlt : i < S.length
    · obtain ⟨hb, cur, hc, hs, hd⟩ := hF
      have hwr := hb.size
      have hbl : w2.heap.size + 1 < wr.heap.size := (Array.getElem?_eq_some_iff.1 hc).1
      have hlt' : (i : Int) < (S.length : Int) := by omega
      have hMr := hM3.below hb (by omega)
      have hSr' := hS3.below hb (by omega)
      have hsi := hSr' i hlt
      have hxr := (hb.block w2.heap.size (by omega)).trans hx3
      have c0 : wr.cell? ⟨w2.heap.size, 0, none⟩ = some (.float .f64 0) := Joins.cell_of_block hxr 0
      have c1 : wr.cell? ⟨w2.heap.size, 1, none⟩ = some (.slice (some ⟨g, 0, none⟩) M.length mc) := Joins.cell_of_block hxr 1
      have hSi : 0 ≤ S.getD i 0 ∧ S.getD i 0 ≤ 255 := hSr _ (getD_mem hlt)
      have hr24 := refill24 g mc M (S.getD i 0) wr hMr (by omega) hM hMl hMs hSi.1 hSi.2
      have hse := fun W (h : Below wr.heap.size wr W) => search sb sc S (refillI M (S.getD i 0)) W (hSr'.below h (by omega)) (by omega) hSs
      have hval : (rmapM S M).getD i 0 = S.countP (· < refillI M (S.getD i 0)) := by simp [rmapM, List.getD, hlt]
      have A : Aside (Filling W3 wr (w2.heap.size + 1) S.length i (fun j => (rmapM S M).getD j 0)) := ⟨hb, cur, hc, hs, hd⟩
      generalize S.getD i 0 = sm at *
      generalize refillI M sm = rr at *
      generalize S.countP (· < rr) = cc at *
      generalize S.contains rr = fd at *
      clear hb hc hd hs hMr hSr' hxr hM3 hS3 hS2 hS hMa hx3 hSr
      go_wp2_with (first | (go_at_call 24; refine hr24.mono ?_; rintro e w5 ⟨rfl, hb5⟩; have hse5 := hse w5 hb5; clear hr24 hse; refine Veil.off ?_) | (go_at_call 23; refine hse5.mono ?_; rintro e w6 ⟨rfl, q6, rfl⟩))
      unfold Veil
      have A5 : Aside (Filling W3 w5 (w2.heap.size + 1) S.length i (fun j => (rmapM S M).getD j 0)) := by
        obtain ⟨hb, cur, hc, hs, hd⟩ := A.out
        exact ⟨hb.trans (hb5.mono (by omega)), cur, (hb5.block _ (by omega)).trans hc, hs, hd⟩
      obtain ⟨cur5, hc5, hs5, hd5⟩ := A5.out.cells
      have hcc1 : w5.cell? ⟨w2.heap.size + 1, i, none⟩ = some cur5[i] := (Joins.cell_of_block hc5 _).trans (by simp [hs5, hlt])
      have hff1 := Joins.unfrozen_of_block hc5 i
      generalize cur5[i] = old at hcc1
      clear hc5 hd5 hs5 c0 c1
      go_wp2_with (go_at_call 23; refine hse5.mono ?_; rintro e w6 ⟨rfl, q6, rfl⟩)
      go_roundg (S.length - i)
      case measure => omega
      case rel =>
        refine ⟨i + 1, by go_num, by omega, by omega, ?_⟩
        have := A5.out.step hlt
        simp only [hval] at this
        obtain ⟨t1, t2⟩ := this
        exact ⟨t1.trans (below_drewN _ _ q6), t2⟩
    · obtain rfl : i = S.length := by omega
      go_wp2
      go_ret
      have hlen : (rmapM S M).length = S.length := by simp [rmapM]
      refine ⟨_, rfl, ?_, hbut.trans (But.of (by omega) (hbW3.trans (hF.below.mono (by omega)))), fun q hq => by simp [Value.ownBlock] at hq; omega⟩
      have h2 := hF
      rw [← hlen] at h2
      have := h2.done S.length
      rw [hlen] at this
      exact this
end Go.Proofs.YbulkcemcGreat
