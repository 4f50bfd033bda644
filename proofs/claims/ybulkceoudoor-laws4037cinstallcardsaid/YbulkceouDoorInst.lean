/-
  LawS4037CInstall: '(*peer).install' by its contract (seat b4037aD).
-/
import Derived.Test.YbulkceouDoorInstB
namespace Go.Proofs.YbulkceouDoor
open Go.RowKit Go.Shelf
attribute [local go_sem] Oper.semAt_some

/-- Between two rounds of the loop that forgets. -/
structure FgI (b0 rb B m : Nat) (W6 : World) (pre : List (Mb m)) (W : World) : Prop where
  size : W6.heap.size ≤ W.heap.size
  same : ∀ j, j ≠ rb → j < B → W.heap[j]? = W6.heap[j]?
  low : Below b0 W6 W
  list : Listed rb B (pre.map fun k => .int .i64 k.1) W

theorem FgI.own (b0 rb B m : Nat) (W6 : World) (hB : B ≤ W6.heap.size) (hb0 : b0 ≤ B) : OwnFrom B (FgI b0 rb B m W6) := fun pre W W' row h hg hr => by
  obtain ⟨h1, h2, h3, ⟨v, h4, h5⟩⟩ := h
  exact ⟨Nat.le_trans h1 hg.size, fun j hne hj => (hg.block j (by omega) (fun e => by have := (hr j e.symm).1; omega)).trans (h2 j hne hj), (ownFrom_below (β := Unit) (by omega) hb0) () W W' row h3 hg hr, ⟨v, heap_own hg hr h4, row_own hg hr h5⟩⟩

set_option linter.unusedSimpArgs false in
set_option maxRecDepth 100000 in
set_option maxHeartbeats 2000000 in
theorem install (b0 E pb chb rb nb n s pm cm jm L : Nat) (tn tm : Int) (nm : Nat → ByteArray) (xs : List Value) (evs : Value) (cs : Array Value) (u19 u20 u23 u24 : Value) (w : World)
    (h0 : 0 < b0) (hbp : b0 ≤ pb) (hb0r : b0 ≤ rb) (hpE : pb < E) (hcE : chb < E) (hrE : rb < E) (hnE : nb < E) (hEw : E ≤ w.heap.size) (hpc : chb ≠ pb) (hpr : rb ≠ pb) (hpn : nb ≠ pb) (hcr : chb ≠ rb) (hnr : nb ≠ rb)
    (hT : TabAt 0 Lib.deBruijn64tab w)
    (hpb : w.heap[pb]? = some (.cells cs 53 (0, 0))) (k0 : cs[0]? = some (.iface 33 (.pointer (some ⟨rb, 0, none⟩)))) (k1 : cs[1]? = some (.slice (some ⟨nb, 0, none⟩) n n)) (k2 : cs[2]? = some (.int .i64 s))
    (k19 : cs[19]? = some u19) (k20 : cs[20]? = some u20) (k21 : cs[21]? = some (.int .u64 pm)) (k22 : cs[22]? = some (.int .u64 0)) (k23 : cs[23]? = some u23) (k24 : cs[24]? = some u24)
    (hr : w.heap[rb]? = some (.cells #[.slice none 0 0, .int .i64 0] 36 (0, 0)))
    (q2 : w.cell? ⟨chb, 2, none⟩ = some (.int .u64 tn)) (q3 : w.cell? ⟨chb, 3, none⟩ = some (.int .i64 tm))
    (q4 : w.cell? ⟨chb, 4, none⟩ = some (.int .u64 cm)) (q5 : w.cell? ⟨chb, 5, none⟩ = some (.int .u64 0))
    (q6 : w.cell? ⟨chb, 6, none⟩ = some (.int .u64 jm)) (q7 : w.cell? ⟨chb, 7, none⟩ = some (.int .u64 0))
    (hnm : ∀ k, k < n → w.cell? ⟨nb, k, none⟩ = some (.string (nm k)))
    (hn : n ≤ 64) (hs : s < n) (hpm : pm < 2 ^ n) (hcm : cm < 2 ^ n) (hjp : ∀ i, i < 64 → jm.testBit i = true → pm.testBit i = true)
    (hev : w.ownsRow E 62 15 evs L xs) (hL : L ≤ 1024) :
    ∃ y, y < 2 ^ 64 ∧ (∀ i, i < 64 → y.testBit i = (pm.testBit i && !cm.testBit i)) ∧ Calls Ybad.prog 4 #[.pointer (some ⟨pb, 0, none⟩), evs, .pointer (some ⟨chb, 0, none⟩)] w fun e w' => ∃ v, e = .returned v ∧
      Installed b0 E pb chb rb n s cm L tn tm nm xs ((mem y).map fun (k : Nat) => Value.int .i64 k) w v w' := by
  obtain ⟨y, hy, hy64, hyb⟩ := minus_nat pm cm
  refine ⟨y, hy64, hyb, ?_⟩
  have hp : pb < w.heap.size := by omega
  have hc : chb < w.heap.size := by omega
  have hrb : rb < w.heap.size := by omega
  have p0 : w.cell? ⟨pb, 0, none⟩ = some (.iface 33 (.pointer (some ⟨rb, 0, none⟩))) := (Joins.cell_of_block hpb 0).trans k0
  have p21 : w.cell? ⟨pb, 21, none⟩ = some (.int .u64 pm) := (Joins.cell_of_block hpb 21).trans k21
  have p22 : w.cell? ⟨pb, 22, none⟩ = some (.int .u64 0) := (Joins.cell_of_block hpb 22).trans k22
  have A : Aside (w.heap[pb]? = some (.cells cs 53 (0, 0)) ∧ w.ownsRow E 62 15 evs L xs ∧ (∀ k, k < n → w.cell? ⟨nb, k, none⟩ = some (.string (nm k)))) := ⟨hpb, hev, hnm⟩
  clear hpb hev hnm
  refine (callsIn_wide (n := 6)).1 ?_
  refine callsIn_of_wp_marks Ybad.func4 rfl trivial ?_ rfl
  simp only [Ybad.ntmps4, List.size_toArray, List.length_cons, List.length_nil, Nat.reduceAdd, Nat.reduceSub, Array.replicate_succ, Array.replicate_zero, List.push_toArray, List.append_toArray, List.nil_append, List.cons_append]
  refine wpIn_wide.2 ?_
  go_wp2
  have hW2e : ∃ W2, (w.alloc (.cells #[.pointer (some ⟨pb, 0, none⟩)] 37)).alloc (.cells #[.pointer (some ⟨chb, 0, none⟩)] 29) = W2 := ⟨_, rfl⟩
  obtain ⟨W2, hW2⟩ := hW2e
  have hB2 : Below w.heap.size w W2 := by rw [← hW2]; exact ((Below.refl _ _).alloc (Nat.le_refl _) _).alloc (by simp) _
  have hS2 : W2.heap.size = w.heap.size + 1 + 1 := by rw [← hW2]; simp
  have hx1 : W2.heap[w.heap.size]? = some (.cells #[.pointer (some ⟨pb, 0, none⟩)] 37 (0, 0)) := by rw [← hW2, alloc_at, if_neg (by simp), alloc_at, if_pos rfl]
  have hx2 : W2.heap[w.heap.size + 1]? = some (.cells #[.pointer (some ⟨chb, 0, none⟩)] 29 (0, 0)) := by rw [← hW2, alloc_at, if_pos (by simp)]
  rw [hW2]
  have c1 : W2.cell? ⟨w.heap.size, 0, none⟩ = some (.pointer (some ⟨pb, 0, none⟩)) := (Joins.cell_of_block hx1 0).trans (by simp)
  have c2 : W2.cell? ⟨w.heap.size + 1, 0, none⟩ = some (.pointer (some ⟨chb, 0, none⟩)) := (Joins.cell_of_block hx2 0).trans (by simp)
  have c3 := (hB2.cell (p := ⟨pb, 21, none⟩) hp).trans p21
  have c4 := (hB2.cell (p := ⟨pb, 22, none⟩) hp).trans p22
  have c5 := (hB2.cell (p := ⟨chb, 4, none⟩) hc).trans q4
  have c6 := (hB2.cell (p := ⟨chb, 5, none⟩) hc).trans q5
  have l1 : w.heap.size < W2.heap.size := by omega
  have l2 : w.heap.size + 1 < W2.heap.size := by omega
  have l3 : pb < W2.heap.size := by omega
  have l4 : chb < W2.heap.size := by omega
  clear hW2
  have hSof : ∀ w' : World, Below W2.heap.size W2 w' → Below W2.heap.size W2 w' ∧ w'.cell? ⟨w.heap.size, 0, none⟩ = some (.pointer (some ⟨pb, 0, none⟩)) ∧ w'.cell? ⟨w.heap.size + 1, 0, none⟩ = some (.pointer (some ⟨chb, 0, none⟩)) ∧ w'.cell? ⟨pb, 21, none⟩ = some (.int .u64 pm) ∧ w'.cell? ⟨pb, 22, none⟩ = some (.int .u64 0) ∧ w'.cell? ⟨chb, 4, none⟩ = some (.int .u64 cm) ∧ w'.cell? ⟨chb, 5, none⟩ = some (.int .u64 0) := fun w' hb =>
    ⟨hb, (hb.cell (p := ⟨w.heap.size, 0, none⟩) l1).trans c1, (hb.cell (p := ⟨w.heap.size + 1, 0, none⟩) l2).trans c2, (hb.cell (p := ⟨pb, 21, none⟩) l3).trans c3, (hb.cell (p := ⟨pb, 22, none⟩) l3).trans c4, (hb.cell (p := ⟨chb, 4, none⟩) l4).trans c5, (hb.cell (p := ⟨chb, 5, none⟩) l4).trans c6⟩
  refine wp_normal ?_
  go_region_held (fun w' => Below W2.heap.size W2 w' ∧ w'.cell? ⟨w.heap.size, 0, none⟩ = some (.pointer (some ⟨pb, 0, none⟩)) ∧ w'.cell? ⟨w.heap.size + 1, 0, none⟩ = some (.pointer (some ⟨chb, 0, none⟩)) ∧ w'.cell? ⟨pb, 21, none⟩ = some (.int .u64 pm) ∧ w'.cell? ⟨pb, 22, none⟩ = some (.int .u64 0) ∧ w'.cell? ⟨chb, 4, none⟩ = some (.int .u64 cm) ∧ w'.cell? ⟨chb, 5, none⟩ = some (.int .u64 0))
    (first | exact hSof _ ((Below.refl _ _).drew) | exact hSof _ hb5 | exact hSof _ (Below.alloc hb5 hb5.size _)) (first | (go_at_call 5; refine (minus _ _ _ _ _).mono ?_; rintro e w5 ⟨rfl, hb5'⟩; have hb5 : Below W2.heap.size W2 w5 := ((Below.refl _ _).drew).trans hb5'; clear hb5') | (go_at_call 6; refine (all _ _ _).mono ?_; rintro e w6 ⟨rfl, rfl⟩))
  rw [show bits .andNot .u64 0 0 = 0 by decide]
  have hb6 : Below W2.heap.size W2 (w5.alloc (.cells #[.int .u64 y, .int .u64 0] 26)) := Below.alloc hb5 hb5.size _
  have hs5 := hb5.size
  obtain ⟨W6, hW6⟩ : ∃ W6, w5.alloc (.cells #[.int .u64 y, .int .u64 0] 26) = W6 := ⟨_, rfl⟩
  have hset : W6.heap[w5.heap.size]? = some (.cells #[.int .u64 y, .int .u64 0] 26 (0, 0)) := by rw [← hW6, alloc_at, if_pos rfl]
  have hS6 : W6.heap.size = w5.heap.size + 1 := by rw [← hW6]; simp
  rw [hW6] at hb6
  rw [hW6]
  have hB6 : Below w.heap.size w W6 := hB2.trans (hb6.mono (by omega))
  show Exit.then _ _ Exit.normal _ _
  go_wp2
  refine (wpIn_wide (n := 6)).1 ?_
  have hym : ∀ k, k ∈ mem y → k < n := fun k hk => by
    have hb := mem_bit y k hk
    rw [hyb k (mem_lt y k hk)] at hb
    simp at hb
    exact Nat.lt_of_not_le fun h => by
      rw [Nat.testBit_lt_two_pow (Nat.lt_of_lt_of_le hpm (Nat.pow_le_pow_right (by omega) h))] at hb
      exact absurd hb.1 (by simp)
  have hx6 : W6.cell? ⟨w.heap.size, 0, none⟩ = some (.pointer (some ⟨pb, 0, none⟩)) := (hb6.cell (p := ⟨w.heap.size, 0, none⟩) l1).trans c1
  have hp6 : W6.cell? ⟨pb, 0, none⟩ = some (.iface 33 (.pointer (some ⟨rb, 0, none⟩))) := (hB6.cell (p := ⟨pb, 0, none⟩) hp).trans p0
  have hr6 : W6.heap[rb]? = some (.cells #[.slice none 0 0, .int .i64 0] 36 (0, 0)) := (hB6.block rb hrb).trans hr
  refine wpIn_rangeFunc_ownF rfl (by omega) (gf := 9) (lb := #[.pointer (some ⟨w5.heap.size, 0, none⟩)]) rfl trivial (enters_of Ybad.func9 (by kernel_rfl) rfl)
    (all_stops 5 (by omega) b0 w5.heap.size y n hy64 hym W6 h0 (tab_below hT hB6 (by omega)) (by omega) ((Joins.cell_of_block hset 0).trans (by simp)) ((Joins.cell_of_block hset 1).trans (by simp)))
    belowK_t (belowK_b (by omega)) (Below.refl _ _) (fun _ => rfl)
    (FgI b0 rb W6.heap.size n W6) (fun _ _ _ => False) (FgI.own b0 rb W6.heap.size n W6 (Nat.le_refl _) (by omega)) (fun _ _ _ _ _ hs _ _ => hs)
    ⟨Nat.le_refl _, fun _ _ _ => rfl, Below.refl _ _, ⟨.slice none 0 0, hr6, World.ownsRow_nil _ _ _ _⟩⟩
    (fun k => { tmps := #[.pointer (some ⟨pb, 0, none⟩), evs, .pointer (some ⟨chb, 0, none⟩), .pointer (some ⟨w.heap.size, 0, none⟩), undef, .pointer (some ⟨w.heap.size + 1, 0, none⟩), .slice none 0 0, .int .i64 k.1, undef, .pointer (some ⟨pb, 0, none⟩), .pointer (some ⟨pb, 0, none⟩), .pointer (some ⟨pb, 19, none⟩), .pointer (some ⟨pb, 21, none⟩), .agg #[.int .u64 pm, .int .u64 0], .pointer (some ⟨chb, 0, none⟩), .pointer (some ⟨chb, 0, none⟩), .pointer (some ⟨chb, 4, none⟩), .agg #[.int .u64 cm, .int .u64 0], .agg #[.int .u64 y, .int .u64 0], .func (.func 9) #[] #[.pointer (some ⟨w5.heap.size, 0, none⟩)], .int .i64 k.1, undef, undef, undef, undef, undef, undef, undef, undef, undef, undef, undef, undef, undef, undef, undef, undef, undef, undef, undef, undef, undef, undef, undef, undef, undef, undef, undef, undef, undef, undef, undef, undef, undef, undef, undef, undef, undef, undef, undef, undef, undef, undef, undef, undef, undef, undef, undef, undef, undef, undef, undef, undef], defers := [] }) ?assign ?body ?done ?stop
  case assign =>
    intro l k W K hK
    gi_wp2
    exact hK
  case body =>
    rintro l pre k W hI hlen
    have hI' := hI
    obtain ⟨z1, z2, z3, z4⟩ := hI'
    have e1 : W.cell? ⟨w.heap.size, 0, none⟩ = some (.pointer (some ⟨pb, 0, none⟩)) := (World.cell?_of_block (z2 w.heap.size (by omega) (by omega))).trans hx6
    have e2 : W.cell? ⟨pb, 0, none⟩ = some (.iface 33 (.pointer (some ⟨rb, 0, none⟩))) := (World.cell?_of_block (z2 pb (fun e => hpr e.symm) (by omega))).trans hp6
    have hm : ∀ W, (method 260 33 (.pointer (some ⟨rb, 0, none⟩)) "example.com/causeline/causeline.forget").run Ybad.prog W = .ok (39, .pointer (some ⟨rb, 0, none⟩)) W := fun _ => by kernel_rfl
    have hpl : pre.length < 64 := Nat.lt_of_lt_of_le hlen (mem_length y)
    gi_wp2
    refine ⟨trivial, ?_⟩
    refine (CallsIn.inRound l (callsIn_wide.2 (forget rb W6.heap.size k.1 _ W (by omega) z1 (by simpa using hpl) z4))).mono ?_
    rintro e w' ⟨⟨vv, rfl⟩, hl2, hk2⟩
    dsimp only
    gi_wp2
    exact ⟨hk2.others, hk2.low.mono hb0r, Nat.le_trans z1 hk2.size, fun j a b => (hk2.same j a b).trans (z2 j a b), z3.trans (hk2.low.mono hb0r), by simpa using hl2⟩
  case done =>
    rintro D zs W hD hzs hI hK
    obtain ⟨z1, z2, z3, z4⟩ := hI
    obtain ⟨a1, a2, a3⟩ := A.out
    have hk : ∀ j, j ≠ rb → j < w.heap.size → W.heap[j]? = w.heap[j]? := fun j h1 h2 => (z2 j h1 (by omega)).trans (hB6.block j h2)
    have hkc : ∀ j o, j ≠ rb → j < w.heap.size → W.cell? ⟨j, o, none⟩ = w.cell? ⟨j, o, none⟩ := fun j o h1 h2 => World.cell?_of_block (hk j h1 h2)
    have hkx : ∀ j, j ≠ rb → j < W6.heap.size → W.cell? ⟨j, 0, none⟩ = W6.cell? ⟨j, 0, none⟩ := fun j h1 h2 => World.cell?_of_block (z2 j h1 h2)
    have hlist : Listed rb W6.heap.size ((mem y).map fun (k : Nat) => Value.int .i64 k) W := by
      rw [← hzs, List.map_map]
      exact z4
    have hev2 : W.ownsRow E 62 15 evs L xs := by
      obtain ⟨e2, ⟨e3, e4⟩ | ⟨g, cap, cur, e3, e4, e5, e6⟩⟩ := a2
      · exact ⟨e2, .inl ⟨e3, e4⟩⟩
      · exact ⟨e2, .inr ⟨g, cap, cur, e3, e4, (hk g (by omega) (Array.getElem?_eq_some_iff.1 e5).1).trans e5, e6⟩⟩
    have hevB : ∀ k, evs.ownBlock = some k → k < W6.heap.size := fun k hk => by have := (a2.lt k hk).2; omega
    have hx2 := (hb6.cell (p := ⟨w.heap.size + 1, 0, none⟩) l2).trans c2
    have hrest := install_B b0 E W6.heap.size pb chb rb nb n s pm cm jm w.heap.size (w.heap.size + 1) D L tn tm nm xs ((mem y).map fun (k : Nat) => Value.int .i64 k) evs cs u19 u20 u23 u24 w W ((hB6.mono (by omega)).trans z3) (fun j _ h2 h3 => hk j h2 (by omega))
      h0 hbp hpE hcE hrE hnE (by omega) (by omega) (by omega) hEw (by omega) z1 hpc hpr hpn (tab_below (tab_below hT hB6 (by omega)) z3 h0) ((hk pb (fun e => hpr e.symm) (by omega)).trans a1) k1 k2 k19 k20 k21 k22 k23 k24
      ((hkx w.heap.size (by omega) (by omega)).trans hx6) ((hkx (w.heap.size + 1) (by omega) (by omega)).trans hx2)
      ((hkc chb 2 hcr hc).trans q2) ((hkc chb 3 hcr hc).trans q3) ((hkc chb 4 hcr hc).trans q4) ((hkc chb 5 hcr hc).trans q5) ((hkc chb 6 hcr hc).trans q6) ((hkc chb 7 hcr hc).trans q7)
      (fun k hk' => (hkc nb k hnr (by omega)).trans (a3 k hk')) hn hs hcm hjp hlist hev2 hevB hL hK hD
    gi_wp2
    exact hrest _ _ _ _ _ _ _ _ _ _ _ _ _ _ _ _ _ _ _ _ _ _ _ _ _ _ _ _ _ _ _ _ _ _ _ _ _ _ _ _ _ _ _ _ _ _ _ _ _ _ _ _ _ _ _ _ _ _ _ _ _ _ _ _ _ _ _
  case stop =>
    rintro D c pre W _ _ h _
    exact h.elim
end Go.Proofs.YbulkceouDoor
