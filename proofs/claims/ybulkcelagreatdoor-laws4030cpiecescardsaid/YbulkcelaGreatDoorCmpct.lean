/-
  slices.CompactFunc of a row of times (seat b4030aZD).
-/
import Derived.Test.YbulkcelaGreatDoorTimes
namespace Go.Proofs.YbulkcelaGreatDoor
open Go.RowKit Go.MapKept Go.Lib Go.Shelf Go.Maps Go.Sort

theorem Ybaz.info29 : (Ybaz.prog.info? 29).map (fun i => (i.zero, i.size, i.bytes)) = some (some (tv 0), 3, 24) := by kernel_rfl
set_option maxRecDepth 100000 in
theorem zero29 (W : World) : (zeroValue 29).run Ybaz.prog W = .ok (tv 0) W := by rfl

theorem grown_trans {w w1 w2 : World} {o : Option Nat} (h : w.grownBy w1 o) (k : w1.grownBy w2 o) : w.grownBy w2 o :=
  ⟨k.os.trans h.os, k.tape.trans h.tape, k.output.trans h.output, Nat.le_trans h.size k.size, fun j hj hne => (k.block j (Nat.lt_of_lt_of_le hj h.size) hne).trans (h.block j hj hne)⟩
theorem grown_lays {w w1 : World} {o : Option Nat} (h : Lays w w1) : w.grownBy w1 o :=
  ⟨h.below.os, h.below.tape, h.below.output, h.below.size, fun j hj _ => h.below.block j hj⟩
theorem TB.lays {w w1 : World} {b cap : Nat} {d : Array Int} (h : TB w b cap d) (hl : Lays w w1) : TB w1 b cap d := h.block (hl.below.block b h.lt)

theorem TB.set {w : World} {b c : Nat} {dk : Array Int} (h : TB w b c dk) (kk : Nat) (u : Int) (hk : kk < dk.size) :
    TB (((w.setCell ⟨b, kk * 3, none⟩ (.int .u64 0)).setCell ⟨b, kk * 3 + 1, none⟩ (.int .i64 u)).setCell ⟨b, kk * 3 + 2, none⟩ (.pointer none)) b c (dk.setIfInBounds kk u) ∧
    w.grownBy (((w.setCell ⟨b, kk * 3, none⟩ (.int .u64 0)).setCell ⟨b, kk * 3 + 1, none⟩ (.int .i64 u)).setCell ⟨b, kk * 3 + 2, none⟩ (.pointer none)) (some b) := by
  obtain ⟨cur, hc, hs⟩ := h.blk
  have h1 := Joins.block_setCell (i := kk * 3) hc (.int .u64 0)
  have h2 := Joins.block_setCell (i := kk * 3 + 1) h1 (.int .i64 u)
  have h3 := Joins.block_setCell (i := kk * 3 + 2) h2 (.pointer none)
  have hf := h.few
  have hcc : ∀ o, w.cell? ⟨b, o, none⟩ = cur[o]? := fun o => Joins.cell_of_block hc o
  refine ⟨⟨⟨_, h3, by simp [hs]⟩, by simpa using hf, fun j hj => ?_, fun j hj => ?_, fun j hj => ?_⟩, grown_trans (grown_trans (grown_set _ _ _ _) (grown_set _ _ _ _)) (grown_set _ _ _ _)⟩
  · have hj' : j < dk.size := by simpa using hj
    have h0 := h.c0 j hj'
    rw [hcc] at h0
    rw [Joins.cell_of_block h3, Array.getElem?_setIfInBounds, Array.getElem?_setIfInBounds, Array.getElem?_setIfInBounds, if_neg (by omega), if_neg (by omega)]
    by_cases e : j = kk
    · subst e; rw [if_pos rfl, if_pos (by omega)]
    · rw [if_neg (by omega)]; exact h0
  · have hj' : j < dk.size := by simpa using hj
    have h0 := h.c1 j hj'
    rw [hcc] at h0
    rw [Joins.cell_of_block h3, Array.getElem?_setIfInBounds, Array.getElem?_setIfInBounds, Array.getElem?_setIfInBounds, if_neg (by omega)]
    by_cases e : j = kk
    · subst e; rw [if_pos rfl, if_pos (by simp; omega), getElem!_set_same dk j _ hk]
    · rw [if_neg (by omega), if_neg (by omega), getElem!_set_other dk kk j _ e]; exact h0
  · have hj' : j < dk.size := by simpa using hj
    have h0 := h.c2 j hj'
    rw [hcc] at h0
    rw [Joins.cell_of_block h3, Array.getElem?_setIfInBounds, Array.getElem?_setIfInBounds, Array.getElem?_setIfInBounds]
    by_cases e : j = kk
    · subst e; rw [if_pos rfl, if_pos (by simp; omega)]
    · rw [if_neg (by omega), if_neg (by omega), if_neg (by omega)]; exact h0

theorem setCells_low {b : Nat} {t : TypeId} : ∀ (vs : List Value) (w : World) (o : Nat) (cur : Array Value), w.heap[b]? = some (.cells cur t (0, 0)) →
    (∃ cur' : Array Value, (w.setCells b o vs).heap[b]? = some (.cells cur' t (0, 0)) ∧ cur'.size = cur.size ∧ ∀ i, i < o → cur'[i]? = cur[i]?) ∧ w.grownBy (w.setCells b o vs) (some b)
  | [], w, o, cur, h => ⟨⟨cur, h, rfl, fun _ _ => rfl⟩, ⟨rfl, rfl, rfl, Nat.le_refl _, fun _ _ _ => rfl⟩⟩
  | v :: vs, w, o, cur, h => by
    have h1 := Joins.block_setCell (i := o) h v
    obtain ⟨⟨cur', g1, g2, g3⟩, g4⟩ := setCells_low vs (w.setCell ⟨b, o, none⟩ v) (o + 1) _ h1
    refine ⟨⟨cur', g1, by rw [g2]; simp, fun i hi => ?_⟩, grown_trans (grown_set _ _ _ _) g4⟩
    rw [g3 i (by omega), Array.getElem?_setIfInBounds, if_neg (by omega)]

theorem clear_times (w : World) (b o m cap : Nat) (ty : TypeId) (hm : 0 < m) (hc : ∀ j, j < m * 3 → (w.cell? ⟨b, o + j, none⟩).isSome = true) (hf : ∀ j, w.frozen? ⟨b, j, none⟩ = false) :
    ∃ zs : List Value, (Builtin.clear_ #[76] ty #[.slice (some ⟨b, o, none⟩) m cap]).run Ybaz.prog w = .ok (.tuple #[]) (w.setCells b o zs) := by
  obtain ⟨zs, hzs⟩ : ∃ zs, (Builtin.zeroCells (tv 0).cells m).toList = zs := ⟨_, rfl⟩
  have h3 : (tv 0).cells = #[.int .u64 0, .int .i64 0, .pointer none] := by kernel_rfl
  have hl : zs.length = m * 3 := by rw [← hzs, h3]; simp [Builtin.zeroCells]
  have h1 : ∀ v ∈ zs, v.oneCell' = true := by
    intro v hv
    rw [← hzs, h3] at hv
    simp [Builtin.zeroCells] at hv
    obtain ⟨i, _, rfl⟩ := hv
    have : i % 3 < 3 := Nat.mod_lt _ (by omega)
    rcases (show i % 3 = 0 ∨ i % 3 = 1 ∨ i % 3 = 2 by omega) with e | e | e <;> rw [e] <;> rfl
  have hst := run_storeCells_cells (P := Ybaz.prog) b o zs 0 w (fun j hj => by simpa using hc j (by omega)) (fun j _ => hf _) h1
  simp only [Nat.add_zero] at hst
  obtain ⟨m', rfl⟩ : ∃ m', m = m' + 1 := ⟨m - 1, by omega⟩
  refine ⟨zs, ?_⟩
  simp [Builtin.clear_, run_underlying Ybaz.underlying76, zero29 w, hzs, hst]

set_option linter.unusedSimpArgs false in
set_option maxRecDepth 100000 in
set_option maxHeartbeats 1000000 in
theorem comp60 (b c : Nat) (d : Array Int) (w : World) (h : TB w b c d) (hsz : d.size ≤ 1000) :
    Calls Ybaz.prog 60 #[.slice (some ⟨b, 0, none⟩) d.size c, .func (.func 12) #[] #[]] w fun e w' => e = .returned (.slice (some ⟨b, 0, none⟩) (compactUpTo d d.size).length c) ∧ w.grownBy w' (some b) ∧ TB w' b c (compactUpTo d d.size).toArray := by
  have same : (∀ j, j < d.size → keeps d j = true) → compactUpTo d d.size = d.toList := by
    intro hall
    rw [compactUpTo_all d _ hall, range_map_get]
  have HS : Aside ((∀ j, j < d.size → keeps d j = true) → compactUpTo d d.size = d.toList) := same
  clear same
  have mixed : Ybaz.prog.follows .mixedOrders = true := by kernel_rfl
  have heq := fun (x y : Int) (W : World) => equal12 x y W
  have hfew : d.size ≤ c := h.few
  have hfew' : (d.size : Int) ≤ (c : Int) := by omega
  by_cases h2 : d.size < 2
  · have HH : Aside (TB w b c d) := h
    clear h
    have h2' : (d.size : Int) < 2 := by omega
    go_enter Ybaz.func60, Ybaz.ntmps60
    go_wp2
    go_ret
    have e1 := HS.out (fun j hj => keeps_lt_one d j (by omega))
    rw [e1]
    exact ⟨by simp, ⟨rfl, rfl, rfl, Nat.le_refl _, fun _ _ _ => rfl⟩, by simpa using HH.out⟩
  · have h2' : ¬ (d.size : Int) < 2 := by omega
    go_enter Ybaz.func60, Ybaz.ntmps60
    go_wp2
    go_loopg [5] d.size (fun g s3 wr => ∃ k : Nat, 1 ≤ k ∧ k ≤ d.size ∧ d.size - k ≤ g ∧ s3 = .int .i64 k ∧ w.grownBy wr (some b) ∧ TB wr b c d ∧ ∀ j, j < k → keeps d j = true)
    case atStart => exact ⟨1, Nat.le_refl _, by omega, by omega, rfl, ⟨rfl, rfl, rfl, Nat.le_refl _, fun _ _ _ => rfl⟩, h, keeps_lt_one d⟩
    case round =>
      obtain ⟨k, hk1, hk, hg, rfl, hgr, hT, hall⟩ := hrel
      by_cases hlt : k < d.size
      · have hlt' : (k : Int) < (d.size : Int) := by omega
        have hkc : k < c := by omega
        have hkc1 : ¬ c - k = 0 := by omega
        have hkc2 : (k : Int) ≤ (d.size : Int) := by omega
        have hbl := hT.lt
        have c0 := cell_grown (a := ⟨b, k * 3, none⟩) hbl (hT.c0 k hlt)
        have c1 := cell_grown (a := ⟨b, k * 3 + 1, none⟩) hbl (hT.c1 k hlt)
        have c2 := cell_grown (a := ⟨b, k * 3 + 2, none⟩) hbl (hT.c2 k hlt)
        have p0 := cell_grown (a := ⟨b, (k - 1) * 3, none⟩) hbl (hT.c0 (k - 1) (by omega))
        have p1 := cell_grown (a := ⟨b, (k - 1) * 3 + 1, none⟩) hbl (hT.c1 (k - 1) (by omega))
        have p2 := cell_grown (a := ⟨b, (k - 1) * 3 + 2, none⟩) hbl (hT.c2 (k - 1) (by omega))
        have A : Aside (w.grownBy wr (some b) ∧ TB wr b c d ∧ ∀ j, j < k → keeps d j = true) := ⟨hgr, hT, hall⟩
        clear hgr hT hall
        generalize hx : d[k]! = x at c1
        generalize hy : d[k - 1]! = y at p1
        have B : Aside (d[k]! = x ∧ d[k - 1]! = y) := ⟨hx, hy⟩
        clear hx hy
        obtain ⟨km, hkm⟩ : ∃ km : Nat, k - 1 = km := ⟨_, rfl⟩
        have hkm' : (k : Int) - 1 = (km : Int) := by omega
        rw [hkm] at p0 p1 p2
        have hkl : (km : Int) < (d.size : Int) := by omega
        have hwk : IntKind.i64.wrap (km : Int) = km := (IntWalk.i64_left _).trans (by unfold wrap64; omega)
        by_cases hdup : x = y
        · subst hdup
          go_wp2_with fail
          go_quiet_grown (first | (go_at_call 12; exact Calls.grown_of (heq _ _ _)))
          clear c0 c1 c2 p0 p1 p2 hkm' hwk
          have hL : Lays wr (grow (wr.drewN nq) osq) := ⟨_, _, rfl⟩
          obtain ⟨w1, hw1⟩ : ∃ w1, grow (wr.drewN nq) osq = w1 := ⟨_, rfl⟩
          rw [hw1] at hL ⊢
          have hT1 : TB w1 b c d := A.out.2.1.lays hL
          have hg1 : w.grownBy w1 (some b) := grown_trans A.out.1 (grown_lays hL)
          have A1 : Aside (w.grownBy w1 (some b) ∧ TB w1 b c d) := ⟨hg1, hT1⟩
          clear hg1 hT1 hL hw1
          go_wp2
          go_loopg [5, 7] d.size (fun g s3 s5 wx => ∃ (kk k2 : Nat) (dk : Array Int), s3 = .int .i64 kk ∧ s5 = .int .i64 k2 ∧ 1 ≤ k2 ∧ k + k2 ≤ d.size ∧ d.size - (k + k2) ≤ g ∧ w.grownBy wx (some b) ∧ TB wx b c dk ∧ CompInv d (k + k2) kk dk)
          case atStart => exact ⟨k, 1, d, rfl, rfl, Nat.le_refl _, by omega, by omega, A1.out.1, A1.out.2, CompInv.start A.out.2.2 (keeps_neg (by omega) (by rw [B.out.1, B.out.2]))⟩
          case round =>
            obtain ⟨kk, k2, dk, rfl, rfl, h1, hle, hg2, hgr2, hT2, hI⟩ := hrel
            have hkk := hI.lt
            have hds := hI.size
            have hb2 := hT2.lt
            by_cases hlt2 : k + k2 < d.size
            · have m0 := cell_grown (a := ⟨b, (k + k2) * 3, none⟩) hb2 (hT2.c0 (k + k2) (by omega))
              have m1 := cell_grown (a := ⟨b, (k + k2) * 3 + 1, none⟩) hb2 (hT2.c1 (k + k2) (by omega))
              have m2 := cell_grown (a := ⟨b, (k + k2) * 3 + 2, none⟩) hb2 (hT2.c2 (k + k2) (by omega))
              have q0 := cell_grown (a := ⟨b, (k + k2 - 1) * 3, none⟩) hb2 (hT2.c0 (k + k2 - 1) (by omega))
              have q1 := cell_grown (a := ⟨b, (k + k2 - 1) * 3 + 1, none⟩) hb2 (hT2.c1 (k + k2 - 1) (by omega))
              have q2 := cell_grown (a := ⟨b, (k + k2 - 1) * 3 + 2, none⟩) hb2 (hT2.c2 (k + k2 - 1) (by omega))
              rw [hI.high (k + k2) (by omega)] at m1
              rw [hI.high (k + k2 - 1) (by omega)] at q1
              obtain ⟨kn, hkn⟩ : ∃ kn : Nat, k2 - 1 = kn := ⟨_, rfl⟩
              have hkn' : (k2 : Int) - 1 = (kn : Int) := by omega
              have hwn : IntKind.i64.wrap (kn : Int) = kn := (IntWalk.i64_left _).trans (by unfold wrap64; omega)
              rw [show (k + k2) * 3 = k * 3 + k2 * 3 by omega] at m0 m1 m2
              rw [show (k + k2 - 1) * 3 = k * 3 + kn * 3 by omega] at q0 q1 q2
              have A2 : Aside (w.grownBy wr (some b) ∧ TB wr b c dk ∧ CompInv d (k + k2) kk dk) := ⟨hgr2, hT2, hI⟩
              clear hgr2 hT2 hI
              have hl1 : (k2 : Int) < ((d.size - k : Nat) : Int) := by omega
              have hl2 : (kn : Int) < ((d.size - k : Nat) : Int) := by omega
              have hl3 : (kk : Int) < (d.size : Int) := by omega
              generalize hu : d[k + k2]! = u at m1
              generalize hv : d[k + k2 - 1]! = v at q1
              have C : Aside (d[k + k2]! = u ∧ d[k + k2 - 1]! = v) := ⟨hu, hv⟩
              clear hu hv
              by_cases huv : u = v
              · subst huv
                go_wp2_with fail
                go_quiet_grown (first | (go_at_call 12; exact Calls.grown_of (heq _ _ _)))
                clear m0 m1 m2 q0 q1 q2 hkn' hwn
                have hL : Lays wr (grow (wr.drewN nq) osq) := ⟨_, _, rfl⟩
                obtain ⟨w3, hw3⟩ : ∃ w3, grow (wr.drewN nq) osq = w3 := ⟨_, rfl⟩
                rw [hw3] at hL ⊢
                have AL : Aside (Lays wr w3) := hL
                clear hL hw3
                go_wp2
                go_roundg (d.size - (k + (k2 + 1)))
                case measure => omega
                case rel => exact ⟨kk, k2 + 1, dk, rfl, by go_num, by omega, by omega, Nat.le_refl _, grown_trans A2.out.1 (grown_lays AL.out), A2.out.2.1.lays AL.out, A2.out.2.2.skip (keeps_neg (by omega) (by rw [C.out.1, C.out.2]))⟩
              · go_wp2_with fail
                go_quiet_grown (first | (go_at_call 12; exact Calls.grown_of (heq _ _ _)))
                clear m0 m1 m2 q0 q1 q2 hkn' hwn
                have hL : Lays wr (grow (wr.drewN nq) osq) := ⟨_, _, rfl⟩
                obtain ⟨w3, hw3⟩ : ∃ w3, grow (wr.drewN nq) osq = w3 := ⟨_, rfl⟩
                rw [hw3] at hL ⊢
                have AL : Aside (Lays wr w3) := hL
                have hT3 := A2.out.2.1.lays hL
                have m0 := hT3.c0 (k + k2) (by omega)
                have m1 := hT3.c1 (k + k2) (by omega)
                have m2 := hT3.c2 (k + k2) (by omega)
                rw [show (k + k2) * 3 = k * 3 + k2 * 3 by omega] at m0 m1 m2
                rw [A2.out.2.2.high (k + k2) (by omega), C.out.1] at m1
                have k0 := hT3.c0 kk (by omega)
                have k1 := hT3.c1 kk (by omega)
                have k2' := hT3.c2 kk (by omega)
                have f0 := hT3.frozen (kk * 3)
                have f1 := hT3.frozen (kk * 3 + 1)
                have f2 := hT3.frozen (kk * 3 + 2)
                clear hL hw3 hT3
                go_wp2
                obtain ⟨hS1, hS2⟩ := (A2.out.2.1.lays AL.out).set kk u (by omega)
                go_roundg (d.size - (k + (k2 + 1)))
                case measure => omega
                case rel => exact ⟨kk + 1, k2 + 1, dk.setIfInBounds kk u, by go_num, by go_num, by omega, by omega, Nat.le_refl _, grown_trans (grown_trans A2.out.1 (grown_lays AL.out)) hS2, hS1, by have := A2.out.2.2.keep hlt2 (keeps_pos (by rw [C.out.1, C.out.2]; exact huv)); rwa [C.out.1] at this⟩
            · have hend : k + k2 = d.size := by omega
              obtain ⟨cur, hcb, hcs⟩ := hT2.blk
              obtain ⟨zs, hcl⟩ := clear_times wr b (kk * 3) (d.size - kk) (c - kk) 0 (by omega) (fun j hj => by rw [Joins.cell_of_block hcb]; simp [hcs]; omega) (fun j => hT2.frozen j)
              obtain ⟨⟨cur', g1, g2, g3⟩, g4⟩ := setCells_low zs wr (kk * 3) cur hcb
              have A2 : Aside (w.grownBy wr (some b) ∧ TB wr b c dk ∧ CompInv d (k + k2) kk dk ∧ wr.heap[b]? = some (.cells cur 29 (0, 0)) ∧ cur.size = c * 3 ∧ (wr.setCells b (kk * 3) zs).heap[b]? = some (.cells cur' 29 (0, 0)) ∧ cur'.size = cur.size ∧ (∀ i, i < kk * 3 → cur'[i]? = cur[i]?) ∧ wr.grownBy (wr.setCells b (kk * 3) zs) (some b)) := ⟨hgr2, hT2, hI, hcb, hcs, g1, g2, g3, g4⟩
              clear hgr2 hT2 hI hcb hcs g1 g2 g3 g4
              have hl1 : ¬ (k2 : Int) < ((d.size - k : Nat) : Int) := by omega
              have hl3 : (kk : Int) ≤ (d.size : Int) := by omega
              have hl4 : kk < c := by omega
              have hl5 : ¬ c - kk = 0 := by omega
              have hl6 : (kk : Int) ≤ (c : Int) := by omega
              go_wp2
              go_ret
              obtain ⟨hgr2, hT2, hI, hcb, hcs, g1, g2, g3, g4⟩ := A2.out
              rw [hend] at hI
              rw [hI.len]
              have hcc : ∀ o, wr.cell? ⟨b, o, none⟩ = cur[o]? := fun o => Joins.cell_of_block hcb o
              refine ⟨rfl, grown_trans hgr2 g4, ⟨_, g1, by rw [g2, hcs]⟩, by simp [hI.len]; omega, fun j hj => ?_, fun j hj => ?_, fun j hj => ?_⟩
              · have hj' : j < kk := by simpa [hI.len] using hj
                rw [Joins.cell_of_block g1, g3 _ (by omega), ← hcc, hT2.c0 j (by omega)]
              · have hj' : j < kk := by simpa [hI.len] using hj
                rw [Joins.cell_of_block g1, g3 _ (by omega), ← hcc, hT2.c1 j (by omega)]
                have := hI.low j hj'
                simp [this]
              · have hj' : j < kk := by simpa [hI.len] using hj
                rw [Joins.cell_of_block g1, g3 _ (by omega), ← hcc, hT2.c2 j (by omega)]
        · go_wp2_with fail
          go_quiet_grown (first | (go_at_call 12; exact Calls.grown_of (heq _ _ _)))
          clear c0 c1 c2 p0 p1 p2 hkm' hwk
          have hL : Lays wr (grow (wr.drewN nq) osq) := ⟨_, _, rfl⟩
          obtain ⟨w1, hw1⟩ : ∃ w1, grow (wr.drewN nq) osq = w1 := ⟨_, rfl⟩
          rw [hw1] at hL ⊢
          have AL : Aside (Lays wr w1) := hL
          clear hL hw1
          go_wp2
          go_roundg (d.size - (k + 1))
          case measure => omega
          case rel =>
            refine ⟨k + 1, by omega, by omega, Nat.le_refl _, by go_num, grown_trans A.out.1 (grown_lays AL.out), A.out.2.1.lays AL.out, fun j hj => ?_⟩
            by_cases e : j = k
            · subst e
              exact keeps_pos (by rw [B.out.1, B.out.2]; exact hdup)
            · exact A.out.2.2 j (by omega)
      · have : k = d.size := by omega
        subst this
        have A : Aside (w.grownBy wr (some b) ∧ TB wr b c d ∧ ∀ j, j < d.size → keeps d j = true) := ⟨hgr, hT, hall⟩
        clear hgr hT hall
        go_wp2
        go_ret
        have e1 := HS.out A.out.2.2
        rw [e1]
        exact ⟨by simp, A.out.1, by simpa using A.out.2.1⟩
end Go.Proofs.YbulkcelaGreatDoor
