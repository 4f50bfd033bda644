/-
  LawS4032CSingleStep: '(*spans).span', where no series takes a longer step (seat b4032aZ).
-/
import Derived.Test.YbulkcemcGreatCmp
namespace Go.Proofs.YbulkcemcGreat
open Go.RowKit

/-- The refills in turn, each by its map, up to offset k. -/
def spanD (D : List (Int × List Nat)) (n : Nat) (k : Int) : List Nat := (D.takeWhile fun g => decide (g.1 < k)).foldl (fun m g => thenL m g.2) (List.range n)

theorem take_step {D : List (Int × List Nat)} {k : Int} {i : Nat} {a : Int} {d : List Nat} (hi : D[i]? = some (a, d)) (ha : a < k) (hpre : (D.take i).all (fun g => decide (g.1 < k)) = true) :
    (D.take (i + 1)).all (fun g => decide (g.1 < k)) = true := by
  rw [List.take_add_one, hi, List.all_append, hpre]
  simp [ha]

theorem take_all_while {D : List (Int × List Nat)} {k : Int} : ∀ {i : Nat}, (D.take i).all (fun g => decide (g.1 < k)) = true → (i = D.length ∨ ∃ g, D[i]? = some g ∧ ¬ g.1 < k) → D.takeWhile (fun g => decide (g.1 < k)) = D.take i := by
  induction D with
  | nil => intro i _ _; simp
  | cons a t ih =>
    intro i h1 h2
    cases i with
    | zero =>
      rcases h2 with h2 | ⟨g, hg, hk⟩
      · simp at h2
      · simp at hg
        subst hg
        simp [List.takeWhile_cons_of_neg (p := fun g : Int × List Nat => decide (g.1 < k)) (by simpa using hk)]
    | succ i =>
      simp only [List.take_succ_cons, List.all_cons, Bool.and_eq_true, decide_eq_true_eq] at h1
      rw [List.takeWhile_cons_of_pos (by simpa using h1.1), List.take_succ_cons]
      rw [ih (by simpa using h1.2) (by
        rcases h2 with h2 | ⟨g, hg, hk⟩
        · left; simpa using h2
        · right; exact ⟨g, by simpa using hg, hk⟩)]

/-- What the span reads. -/
structure SpanAt (w : World) (spb g m n : Nat) (D : List (Int × List Nat)) : Prop where
  lt : spb < w.heap.size
  glt : g < w.heap.size
  every : ∃ c, w.cell? ⟨spb, 2, none⟩ = some (.slice (some ⟨g, 0, none⟩) m c)
  once : w.cell? ⟨spb, 3, none⟩ = some (.slice none 0 0)
  sms : ∃ b c, w.cell? ⟨spb, 4, none⟩ = some (.slice (some ⟨b, 0, none⟩) n c)
  len : D.length = m
  at_ : ∀ k a d, D[k]? = some (a, d) → w.cell? ⟨g, k * 3, none⟩ = some (.int .i64 a) ∧ ∃ v, w.cell? ⟨g, k * 3 + 2, none⟩ = some v ∧ MapAt w v d ∧ Ok n d

theorem SpanAt.below {w w' : World} {spb g m n : Nat} {D : List (Int × List Nat)} (h : SpanAt w spb g m n D) (hb : Below w.heap.size w w') : SpanAt w' spb g m n D := by
  obtain ⟨h1, h2, ⟨c, h3⟩, h4, ⟨b, c2, h5⟩, h6, h7⟩ := h
  have hs := hb.size
  refine ⟨by omega, by omega, ⟨c, (hb.cell (p := ⟨spb, 2, none⟩) h1).trans h3⟩, (hb.cell (p := ⟨spb, 3, none⟩) h1).trans h4, ⟨b, c2, (hb.cell (p := ⟨spb, 4, none⟩) h1).trans h5⟩, h6, fun k a d hk => ?_⟩
  obtain ⟨e1, v, e2, e3, e4⟩ := h7 k a d hk
  exact ⟨(hb.cell (p := ⟨g, k * 3, none⟩) h2).trans e1, v, (hb.cell (p := ⟨g, k * 3 + 2, none⟩) h2).trans e2, e3.below hb (Nat.le_refl _), e4⟩

set_option linter.unusedSimpArgs false in
set_option maxRecDepth 100000 in
set_option maxHeartbeats 1000000 in
theorem spanM (h40 : ∀ W fv, Calls Ybaz.prog 40 #[.slice none 0 0, fv] W fun e w' => e = .returned (.tuple #[]) ∧ w' = W) (spb g m n : Nat) (D : List (Int × List Nat)) (k : Int) (w : World) (hS : SpanAt w spb g m n D) (hn : n ≤ 256) (hm : m ≤ 1000) :
    Calls Ybaz.prog 17 #[.pointer (some ⟨spb, 0, none⟩), .int .i64 0, .int .i64 k] w fun e w' => ∃ v, e = .returned v ∧ MapAt w' v (spanD D n k) ∧ Below w.heap.size w w' := by
  have A : Aside (SpanAt w spb g m n D) := hS
  obtain ⟨_, _, ⟨c, h2⟩, h3, ⟨sb, sc, h4⟩, hlen, _⟩ := hS
  have hid := fun W => identity n hn W
  go_enter Ybaz.func17, Ybaz.ntmps17
  go_wp2
  go_loopg [7, 18] 1 (fun q v7 vi wr => v7 = .slice none 0 0 ∧ vi = .int .i64 0 ∧ wr = w)
  case atStart => exact ⟨rfl, rfl, rfl⟩
  case round =>
    obtain ⟨rfl, rfl, rfl⟩ := hrel
    go_wp2_with (first | (go_at_call 40; refine (h40 _ _).mono ?_; rintro e w' ⟨rfl, hw'⟩; rw [hw']; clear hw' w') | (go_at_call 42; refine (hid _).mono ?_; rintro e w1 ⟨v1, rfl, hm1, hb1⟩))
    clear h40 hid
    go_loopg [7, 11, 12] (m + 1) (fun q v7 vm vi wx => ∃ i : Nat, v7 = .slice none 0 0 ∧ vi = .int .i64 i ∧ i ≤ m ∧ m - i < q ∧ (D.take i).all (fun g => decide (g.1 < k)) = true ∧ MapAt wx vm ((D.take i).foldl (fun m g => thenL m g.2) (List.range n)) ∧ Ok n ((D.take i).foldl (fun m g => thenL m g.2) (List.range n)) ∧ Below wr.heap.size wr wx)
    case atStart => exact ⟨0, rfl, rfl, Nat.zero_le _, by omega, by simp, by simpa using hm1, by simpa using ok_range n, hb1⟩
    case round =>
      obtain ⟨i, rfl, rfl, him, hq, hall, hM, hO, hb⟩ := hrel
      clear hm1 hb1 h2 h3 h4
      have A2 := A.out.below hb
      obtain ⟨e1, e2, ⟨c, e3⟩, e4, ⟨sb, sc, e5⟩, e6, e7⟩ := A2
      by_cases hlt : i < m
      · obtain ⟨⟨a, d⟩, hd⟩ : ∃ g, D[i]? = some g := ⟨_, List.getElem?_eq_getElem (by omega)⟩
        obtain ⟨f1, v, f2, f3, f4⟩ := e7 i a d hd
        have hlt' : (i : Int) < (m : Int) := by omega
        by_cases hak : a < k
        · have hT := fun W (h1 : MapAt W u11 ((D.take i).foldl (fun m g => thenL m g.2) (List.range n))) (h2 : MapAt W v d) => thenM ((D.take i).foldl (fun m g => thenL m g.2) (List.range n)) d u11 v W h1 h2 (fun j hj => by rw [f4.len]; exact hO.lt j hj) (by rw [hO.len]; exact hn)
          clear e7
          go_wp2
          go_quiet (fail)
          have hb9 := below_drewN wr.heap.size wr nq
          have hT2 := hT (wr.drewN nq) (hM.below hb9 (Nat.le_refl _)) (f3.below hb9 (Nat.le_refl _))
          clear hT
          go_wp2_with (go_at_call 19; refine hT2.mono ?_; rintro e w3 ⟨v3, rfl, hm3, hb3⟩)
          go_roundg (m - i)
          case measure => omega
          case rel =>
            have htk : (D.take (i + 1)).foldl (fun m g => thenL m g.2) (List.range n) = thenL ((D.take i).foldl (fun m g => thenL m g.2) (List.range n)) d := by
              rw [List.take_add_one, hd, List.foldl_append]; rfl
            refine ⟨i + 1, rfl, by go_num, by omega, by omega, take_step hd hak hall, ?_, ?_, hb.trans ((hb9.trans hb3).mono hb.size)⟩
            · rw [htk]; exact hm3
            · rw [htk]; exact hO.then f4
        · have hak' : k ≤ a := by omega
          clear e7
          go_wp2
          go_ret
          refine ⟨_, rfl, ?_, hb⟩
          unfold spanD
          rw [take_all_while hall (.inr ⟨(a, d), hd, by show ¬ a < k; omega⟩)]
          exact hM
      · obtain rfl : i = m := by omega
        clear e7
        go_wp2
        go_ret
        refine ⟨_, rfl, ?_, hb⟩
        unfold spanD
        rw [take_all_while hall (.inl e6.symm)]
        exact hM
end Go.Proofs.YbulkcemcGreat
