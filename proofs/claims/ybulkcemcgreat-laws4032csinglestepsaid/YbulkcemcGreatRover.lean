/-
  LawS4032CSingleStep: 'refillsOver' (seat b4032aZ).
-/
import Derived.Test.YbulkcemcGreatRoverB
namespace Go.Proofs.YbulkcemcGreat
open Go.RowKit

set_option linter.unusedSimpArgs false in
set_option maxRecDepth 100000 in
set_option maxHeartbeats 1000000 in
theorem rover6 (ob oc sb sc step N r : Nat) (X : Ser) (S : List Int) (lo hi : Int) (w : World) (hX0 : 0 < X.length) (hXl : X.length ≤ 900) (hXS : ∀ x ∈ X, x.2 ∈ S) (hXr : ∀ x ∈ X, -3000000000 ≤ x.1 ∧ x.1 ≤ 3000000000) (hlo : -3000000000 ≤ lo ∧ lo ≤ 3000000000)
    (hob : ob < w.heap.size) (hsb : sb < w.heap.size) (hS : SmsAt w sb S) (hO : SerAt w ob X step) (hs0 : 0 < step) (hs1 : step ≤ 1000) (hr : r < step) (hN : N ≤ 100000) (hd : hi - lo = ((N * step + r : Nat) : Int)) (R : Ending → World → Prop)
    (hRes : ∀ P : List GP, (P.map fun x => (x.1, x.2.1)).Perm (groups X lo step) → (P.Pairwise fun x y => x.1 < y.1) → ∀ v w', MapAt w' v (thenL (powL S.length (spanD (doesD S P) S.length step) N) (spanD (doesD S P) S.length r)) → Below w.heap.size w w' → R (.returned v) w') :
    Calls Ybaz.prog 6 #[.slice (some ⟨ob, 0, none⟩) X.length oc, .int .i64 lo, .int .i64 hi, .slice (some ⟨sb, 0, none⟩) S.length sc] w R := by
  obtain ⟨x0, hx0⟩ : ∃ x, X[0]? = some x := ⟨_, List.getElem?_eq_getElem hX0⟩
  obtain ⟨o0, o1, o2⟩ := hO 0 x0 hx0
  rw [Nat.zero_mul, Nat.zero_add] at o1
  have hX0' : (0 : Int) < (X.length : Int) := by omega
  have hA : Aside (SmsAt w sb S ∧ SerAt w ob X step) := ⟨hS, hO⟩
  clear hS hO o0 o2 hx0
  go_enter Ybaz.func6, Ybaz.ntmps6
  go_wp2
  rename_i K1 hK1
  have hK1' : Aside (∀ (a : Act) (w : World), _ → K1 a w) := hK1
  clear hK1
  go_loopg [29] (X.length + 1) (fun q vi wr => ∃ i : Nat, vi = .int .i64 i ∧ i ≤ X.length ∧ X.length - i < q ∧ Below w.heap.size w wr ∧ w.heap.size < wr.heap.size ∧ wr.heap[w.heap.size]? = some (.cells (spCells step (.slice none 0 0) (.slice (some ⟨sb, 0, none⟩) S.length sc) (.map none)) 49 (0, 0)))
  case atStart =>
    exact ⟨0, rfl, Nat.zero_le _, by omega, (Below.refl _ _).alloc (Nat.le_refl _) _, by simp, by rw [alloc_at, if_pos rfl]; rfl⟩
  case round =>
    obtain ⟨i, rfl, hiX, hq, hb, hsw, hbl⟩ := hrel
    by_cases hlt : i < X.length
    · obtain ⟨x, hx⟩ : ∃ x, X[i]? = some x := ⟨_, List.getElem?_eq_getElem hlt⟩
      obtain ⟨o0, o1, o2⟩ := hA.out.2 i x hx
      have p0 := (hb.cell (p := ⟨ob, i * 3, none⟩) hob).trans o0
      have p1 := (hb.cell (p := ⟨ob, i * 3 + 1, none⟩) hob).trans o1
      have p2 := (hb.cell (p := ⟨ob, i * 3 + 2, none⟩) hob).trans o2
      have s0 : wr.cell? ⟨w.heap.size, 0, none⟩ = some (.int .i64 step) := Joins.cell_of_block hbl 0
      have hf0 := Joins.unfrozen_of_block hbl 0
      have hlt' : (i : Int) < (X.length : Int) := by omega
      have hne : w.heap.size ≠ wr.heap.size := by omega
      have hAb : Aside (wr.heap[w.heap.size]? = some (.cells (spCells step (.slice none 0 0) (.slice (some ⟨sb, 0, none⟩) S.length sc) (.map none)) 49 (0, 0)) ∧ Below w.heap.size w wr) := ⟨hbl, hb⟩
      clear o0 o1 o2 hbl hb hx
      go_wp2
      go_region
      go_wp2
      go_roundg (X.length - i)
      case measure => omega
      case rel =>
        refine ⟨i + 1, by go_num, by omega, by omega, ?_, ?_, ?_⟩
        · exact ((hAb.out.2.setCell (p := ⟨w.heap.size, 0, none⟩) (Nat.le_refl _) _).alloc (by rw [World.size_setCell]; omega) _).drew
        · show w.heap.size < (World.alloc _ _).heap.size
          simp
          omega
        · show (World.alloc _ _).heap[w.heap.size]? = _
          rw [alloc_at, if_neg (by rw [World.size_setCell]; omega)]
          exact Joins.block_setCell hAb.out.1 _
    · obtain rfl : i = X.length := by omega
      go_wp2
      exact hK1'.out _ _ (rover_B w.heap.size ob oc sb sc step N r X S (.map none) lo hi w wr hb hX0 hXl hXS hXr hlo hob hsb hsw (hA.out.1.below hb hsb) (fun j x hx => by
          obtain ⟨o0, o1, o2⟩ := hA.out.2 j x hx
          exact ⟨(hb.cell (p := ⟨ob, j * 3, none⟩) hob).trans o0, (hb.cell (p := ⟨ob, j * 3 + 1, none⟩) hob).trans o1, (hb.cell (p := ⟨ob, j * 3 + 2, none⟩) hob).trans o2⟩)
        hbl hs0 hs1 hr hN hd R hRes _ _ _ _ _ _ _ _ _ _ _ _ _ _ _ _ _ _ _ _ _ _ _ _ _ _ _ _ _ _ _ _ _ _ _ _ _ _ _ _ _ _ _ _ _ _ _ _ _ _ _ _ _ _ _ _ _ _ _ _ _ _ _ _ _ _ _ _ _ _ _ _ _ _ _ _ _ _ _ _ _ _ _ _ _ _ _ _ _ _ _ _ _ _ _ _ _ _ _ _ _ _ _ _ _ _ _ _ _ _ _ _ _ _ _ _ _ _ _ _ _ _ _ _ _ _ _ _ _ _ _ _ _ _ _ _ _ _ _ _ _ _ _ _ _ _ _ _ _ _ _ _ _ _ _ _ _ _ _ _ _ _ _ _ _ _ _ _ _ _ _ _ _ _ _ _ _ _ _ _ _ _ _ _ _ _)

/-- The series whose phase is met at the unit of time t. -/
def dueAt (X : Ser) (step : Nat) (t : Int) : List Int := (X.filter fun x => decide ((x.1 - t) % (step : Int) = 0)).map (·.2)

theorem mod_shift (a k s : Int) (hs : 0 < s) : (a - k) % s = 0 ↔ a % s = k % s := by
  rw [← Int.emod_emod_of_dvd (a - k) (Int.dvd_refl s), Int.sub_emod]
  have h1 := Int.emod_nonneg a (Int.ne_of_gt hs)
  have h2 := Int.emod_lt_of_pos a hs
  have h3 := Int.emod_nonneg k (Int.ne_of_gt hs)
  have h4 := Int.emod_lt_of_pos k hs
  constructor
  · intro h
    rw [Int.emod_emod_of_dvd _ (Int.dvd_refl s)] at h
    have h5 := Int.emod_add_mul_ediv (a % s - k % s) s
    rw [h] at h5
    by_cases h6 : (a % s - k % s) / s = 0
    · rw [h6] at h5; simp at h5; omega
    · exfalso
      rcases Int.lt_or_gt_of_ne h6 with h7 | h7
      · have : s * ((a % s - k % s) / s) ≤ s * (-1) := Int.mul_le_mul_of_nonneg_left (by omega) (by omega)
        omega
      · have : s * 1 ≤ s * ((a % s - k % s) / s) := Int.mul_le_mul_of_nonneg_left (by omega) (by omega)
        omega
  · intro h
    rw [h, Int.sub_self]
    simp

theorem dueAt_ends (X : Ser) (lo : Int) (step : Nat) (hs : 0 < step) (k : Nat) : dueAt X step (lo + k) = endsAt X lo step ((k % step : Nat) : Int) := by
  unfold dueAt endsAt
  congr 1
  refine List.filter_congr fun x _ => ?_
  have h := mod_shift (x.1 - lo) k step (by omega)
  rw [show x.1 - lo - (k : Int) = x.1 - (lo + k) by omega] at h
  rw [decide_eq_decide, h]
  rfl

theorem dueAt_mem {X : Ser} {step : Nat} {t x : Int} (h : x ∈ dueAt X step t) : ∃ y ∈ X, y.2 = x := by
  obtain ⟨y, hy, e⟩ := List.mem_map.1 h
  exact ⟨y, (List.mem_filter.1 hy).1, e⟩

theorem dueAt_len (X : Ser) (step : Nat) (t : Int) : (dueAt X step t).length ≤ X.length := by
  unfold dueAt
  rw [List.length_map]
  exact List.length_filter_le _ _

theorem spanD_does (S : List Int) (P : List GP) (n : Nat) (k : Int) : spanD (doesD S P) n k = spanL (rmap S) (P.map fun x => (x.1, x.2.1)) n k := by
  unfold spanD doesD spanL
  have : ∀ (l : List GP) (m : List Nat), ((l.map fun x => (x.1, rmap S x.2.1)).takeWhile fun g => decide (g.1 < k)).foldl (fun m g => thenL m g.2) m = ((l.map fun x => (x.1, x.2.1)).takeWhile fun g => decide (g.1 < k)).foldl (fun m g => thenL m (rmap S g.2)) m := by
    intro l
    induction l with
    | nil => intro m; rfl
    | cons x l ih =>
      intro m
      simp only [List.map_cons, List.takeWhile_cons]
      split
      · simp only [List.foldl_cons]; exact ih _
      · rfl
  exact this P _

theorem span_is (S : List Int) (X : Ser) (lo : Int) (step : Nat) (hs : 0 < step) (P : List GP) (hp : (P.map fun x => (x.1, x.2.1)).Perm (groups X lo step)) (hso : P.Pairwise fun x y => x.1 < y.1) (k : Nat) (hk : k ≤ step) :
    spanD (doesD S P) S.length (k : Int) = comp (rmap S) (fun i => dueAt X step (lo + i)) S.length k := by
  obtain ⟨f1, f2, f3, f4⟩ := groups_facts lo step (by omega) X
  have hkey : ∀ g ∈ P.map (fun x => (x.1, x.2.1)), g.2 = endsAt X lo step g.1 ∧ g.2 ≠ [] ∧ 0 ≤ g.1 ∧ g.1 < step := fun g hg => by
    have hm := hp.mem_iff.1 hg
    have hk : g.1 ∈ (groups X lo step).map (·.1) := List.mem_map.2 ⟨g, hm, rfl⟩
    have e := getE_mem f1 (a := g.1) (E := g.2) hm
    rw [f2] at e
    exact ⟨e.symm, by rw [← e]; exact (f3 _).1 hk, f4 _ hk⟩
  rw [spanD_does, span_comp (rmap S) _ S.length (fun i => endsAt X lo step (i : Int)) ?_ ?_ ?_ ?_ k]
  · refine comp_congr k fun i hi => ?_
    rw [dueAt_ends X lo step hs i, Nat.mod_eq_of_lt (by omega)]
  · rw [List.pairwise_map]; exact hso
  · intro g hg; exact (hkey g hg).2.2.1
  · intro k hk
    obtain ⟨g, hg, e⟩ := List.mem_map.1 ((f3 (k : Int)).2 hk)
    have hg' := hp.mem_iff.2 hg
    have e2 := (hkey g hg').1
    rw [e] at e2
    rw [← e2, ← e]
    exact hg'
  · intro g hg k e
    rw [← e, ← (hkey g hg).1]
    exact (hkey g hg).2.1

theorem over6 (ob oc sb sc step n : Nat) (X : Ser) (S : List Int) (lo hi : Int) (w : World) (hX0 : 0 < X.length) (hXl : X.length ≤ 900) (hXS : ∀ x ∈ X, x.2 ∈ S) (hXr : ∀ x ∈ X, -3000000000 ≤ x.1 ∧ x.1 ≤ 3000000000) (hlo : -3000000000 ≤ lo ∧ lo ≤ 3000000000)
    (hob : ob < w.heap.size) (hsb : sb < w.heap.size) (hS : SmsAt w sb S) (hO : SerAt w ob X step) (hs0 : 0 < step) (hs1 : step ≤ 1000) (hn : n ≤ 100000) (hd : hi - lo = (n : Int)) :
    Calls Ybaz.prog 6 #[.slice (some ⟨ob, 0, none⟩) X.length oc, .int .i64 lo, .int .i64 hi, .slice (some ⟨sb, 0, none⟩) S.length sc] w fun e w' => ∃ v, e = .returned v ∧ MapAt w' v (comp (rmap S) (fun i => dueAt X step (lo + i)) S.length n) ∧ Below w.heap.size w w' := by
  have hR : ∀ k : Nat, dueAt X step (lo + k) ≠ [] → Ok S.length (rmap S (dueAt X step (lo + k))) := fun k h0 => ok_rmap h0 (fun x hx => by
    obtain ⟨y, hy, e⟩ := dueAt_mem hx
    rw [← e]; exact hXS y hy) (by have := dueAt_len X step (lo + k); omega)
  have hdm : n = n / step * step + n % step := by rw [Nat.mul_comm]; exact (Nat.div_add_mod n step).symm
  refine rover6 ob oc sb sc step (n / step) (n % step) X S lo hi w hX0 hXl hXS hXr hlo hob hsb hS hO hs0 hs1 (Nat.mod_lt _ hs0) (Nat.le_trans (Nat.div_le_self _ _) hn) (by rw [hd, ← hdm]) _ fun P hp hso v w' hm hb => ⟨v, rfl, ?_, hb⟩
  have hc := comp_period (R := rmap S) (E := fun i => dueAt X step (lo + i)) (n := S.length) (p := step) hR (fun i => by
    show dueAt X step (lo + ((step + i : Nat) : Int)) = dueAt X step (lo + (i : Int))
    rw [dueAt_ends X lo step hs0, dueAt_ends X lo step hs0, Nat.add_mod_left]) (n % step) (n / step)
  rw [← hdm] at hc
  rw [hc, ← span_is S X lo step hs0 P hp hso step (Nat.le_refl _), ← span_is S X lo step hs0 P hp hso (n % step) (Nat.le_of_lt (Nat.mod_lt _ hs0))]
  exact hm
end Go.Proofs.YbulkcemcGreat
