/-
  LawS4032CSingleStep: the plain law: spans, powers and groups: no Go in sight (seat b4032aZ).
-/
import Derived.Test.YbulkcemcGreatMaps
namespace Go.Proofs.YbulkcemcGreat

/-! ### Runs of refills -/
/-- One unit of time: the refill of E, if any block ends there. -/
def stepf (R : List Int → List Nat) (E : List Int) (m : List Nat) : List Nat := if E = [] then m else thenL m (R E)

/-- The first k units of time. -/
def comp (R : List Int → List Nat) (E : Nat → List Int) (n : Nat) : Nat → List Nat
  | 0 => List.range n
  | k + 1 => stepf R (E k) (comp R E n k)

theorem comp_succ (R : List Int → List Nat) (E : Nat → List Int) (n k : Nat) : comp R E n (k + 1) = stepf R (E k) (comp R E n k) := rfl

theorem comp_ok {R : List Int → List Nat} {E : Nat → List Int} {n : Nat} (hR : ∀ k, E k ≠ [] → Ok n (R (E k))) : ∀ k, Ok n (comp R E n k)
  | 0 => ok_range n
  | k + 1 => by
    unfold comp stepf
    by_cases h : E k = []
    · rw [if_pos h]; exact comp_ok hR k
    · rw [if_neg h]; exact (comp_ok hR k).then (hR k h)

theorem comp_add {R : List Int → List Nat} {E : Nat → List Int} {n : Nat} (hR : ∀ k, E k ≠ [] → Ok n (R (E k))) (a : Nat) : ∀ b, comp R E n (a + b) = thenL (comp R E n a) (comp R (fun i => E (a + i)) n b)
  | 0 => by rw [Nat.add_zero, comp, thenL_range (comp_ok hR a)]
  | b + 1 => by
    rw [← Nat.add_assoc, comp_succ, comp_succ]
    unfold stepf
    by_cases h : E (a + b) = []
    · rw [if_pos h, if_pos h]; exact comp_add hR a b
    · rw [if_neg h, if_neg h, comp_add hR a b]
      exact thenL_assoc (comp_ok hR a) (comp_ok (E := fun i => E (a + i)) (fun k hk => hR _ hk) b)

theorem comp_congr {R : List Int → List Nat} {E F : Nat → List Int} {n : Nat} : ∀ k, (∀ i, i < k → E i = F i) → comp R E n k = comp R F n k
  | 0, _ => rfl
  | k + 1, h => by
    unfold comp
    rw [comp_congr k (fun i hi => h i (by omega)), h k (by omega)]

theorem comp_period {R : List Int → List Nat} {E : Nat → List Int} {n p : Nat} (hR : ∀ k, E k ≠ [] → Ok n (R (E k))) (hp : ∀ i, E (p + i) = E i) (r : Nat) :
    ∀ q, comp R E n (q * p + r) = thenL (powL n (comp R E n p) q) (comp R E n r)
  | 0 => by rw [Nat.zero_mul, Nat.zero_add, powL, range_thenL (comp_ok hR r)]
  | q + 1 => by
    have e : (q + 1) * p + r = p + (q * p + r) := by rw [Nat.add_mul]; omega
    rw [e, comp_add hR p, show (fun i => E (p + i)) = E from funext hp, comp_period hR hp r q, ← thenL_assoc (comp_ok hR p) (ok_pow (comp_ok hR p) q), pow_comm (comp_ok hR p)]

/-! ### Groups of blocks that end together -/
def togetherL : List (Int × List Int) → Int → Int → List (Int × List Int)
  | [], a, sm => [(a, [sm])]
  | (b, E) :: t, a, sm => if b = a then (b, E ++ [sm]) :: t else (b, E) :: togetherL t a sm

def getE : List (Int × List Int) → Int → List Int
  | [], _ => []
  | (b, E) :: t, a => if b = a then E else getE t a

theorem getE_together : ∀ (rs : List (Int × List Int)) (a sm b : Int), getE (togetherL rs a sm) b = if b = a then getE rs a ++ [sm] else getE rs b
  | [], a, sm, b => by
    by_cases h : b = a
    · subst h; simp [togetherL, getE]
    · simp [togetherL, getE, h, Ne.symm h]
  | (c, E) :: t, a, sm, b => by
    unfold togetherL
    by_cases hc : c = a
    · subst hc
      by_cases h : b = c
      · subst h; simp [getE]
      · simp [getE, h, Ne.symm h]
    · rw [if_neg hc]
      simp only [getE]
      by_cases hb : c = b
      · subst hb
        rw [if_pos rfl, if_neg hc, if_pos rfl]
      · rw [if_neg hb, getE_together t a sm b, if_neg hc, if_neg hb]

theorem keys_together : ∀ (rs : List (Int × List Int)) (a sm : Int), (togetherL rs a sm).map (·.1) = if a ∈ rs.map (·.1) then rs.map (·.1) else rs.map (·.1) ++ [a]
  | [], a, sm => by simp [togetherL]
  | (c, E) :: t, a, sm => by
    unfold togetherL
    by_cases hc : c = a
    · subst hc; simp
    · rw [if_neg hc]
      simp only [List.map_cons, keys_together t a sm, List.mem_cons, Ne.symm hc, false_or]
      by_cases h : a ∈ t.map (·.1)
      · rw [if_pos h, if_pos h]
      · rw [if_neg h, if_neg h]; rfl

theorem nodup_together {rs : List (Int × List Int)} (h : (rs.map (·.1)).Nodup) (a sm : Int) : ((togetherL rs a sm).map (·.1)).Nodup := by
  rw [keys_together]
  by_cases hm : a ∈ rs.map (·.1)
  · rw [if_pos hm]; exact h
  · rw [if_neg hm, List.nodup_append]
    refine ⟨h, by simp, fun x hx y hy => ?_⟩
    simp at hy
    subst hy
    intro e
    subst e
    exact hm hx

theorem getE_mem : ∀ {rs : List (Int × List Int)} (_ : (rs.map (·.1)).Nodup) {a : Int} {E : List Int}, (a, E) ∈ rs → getE rs a = E
  | [], _, _, _, hm => by cases hm
  | (c, F) :: t, h, a, E, hm => by
    simp only [List.map_cons, List.nodup_cons] at h
    rcases List.mem_cons.1 hm with e | hm
    · cases e; simp [getE]
    · have hne : c ≠ a := fun e => h.1 (by rw [e]; exact List.mem_map.2 ⟨_, hm, rfl⟩)
      simp only [getE, if_neg hne]
      exact getE_mem h.2 hm

theorem getE_none : ∀ {rs : List (Int × List Int)} {a : Int}, a ∉ rs.map (·.1) → getE rs a = []
  | [], _, _ => rfl
  | (c, F) :: t, a, h => by
    simp only [List.map_cons, List.mem_cons, not_or] at h
    simp only [getE, if_neg (Ne.symm h.1)]
    exact getE_none h.2

/-- The series: where it first ends, on which SM. -/
abbrev Ser := List (Int × Int)
/-- The blocks that end at offset u from l. -/
def endsAt (X : Ser) (l step u : Int) : List Int := (X.filter fun x => decide ((x.1 - l) % step = u)).map (·.2)

def groups (X : Ser) (l step : Int) : List (Int × List Int) := X.foldl (fun rs x => togetherL rs ((x.1 - l) % step) x.2) []

theorem groups_snoc (X : Ser) (x : Int × Int) (l step : Int) : groups (X ++ [x]) l step = togetherL (groups X l step) ((x.1 - l) % step) x.2 := by
  unfold groups; rw [List.foldl_append]; rfl

theorem endsAt_snoc (X : Ser) (x : Int × Int) (l step u : Int) : endsAt (X ++ [x]) l step u = endsAt X l step u ++ (if (x.1 - l) % step = u then [x.2] else []) := by
  unfold endsAt
  rw [List.filter_append, List.map_append]
  congr 1
  by_cases h : (x.1 - l) % step = u <;> simp [h]

theorem rev_ind {α : Type} {p : List α → Prop} (h0 : p []) (h1 : ∀ l a, p l → p (l ++ [a])) (l : List α) : p l := by
  have : ∀ r : List α, p r.reverse := fun r => by
    induction r with
    | nil => exact h0
    | cons a r ih => rw [List.reverse_cons]; exact h1 _ _ ih
  have h := this l.reverse
  rwa [List.reverse_reverse] at h

theorem groups_facts (l step : Int) (hs : 0 < step) : ∀ (X : Ser), ((groups X l step).map (·.1)).Nodup ∧ (∀ u, getE (groups X l step) u = endsAt X l step u) ∧ (∀ u, u ∈ (groups X l step).map (·.1) ↔ endsAt X l step u ≠ []) ∧ ∀ u ∈ (groups X l step).map (·.1), 0 ≤ u ∧ u < step := by
  intro X
  refine rev_ind (p := fun X : Ser => ((groups X l step).map (·.1)).Nodup ∧ (∀ u, getE (groups X l step) u = endsAt X l step u) ∧ (∀ u, u ∈ (groups X l step).map (·.1) ↔ endsAt X l step u ≠ []) ∧ ∀ u ∈ (groups X l step).map (·.1), 0 ≤ u ∧ u < step) ?_ (fun X x ih => ?_) X
  · exact ⟨by simp [groups], fun u => rfl, fun u => by simp [groups, endsAt], fun u hu => by simp [groups] at hu⟩
  · obtain ⟨h1, h2, h3, h4⟩ := ih
    rw [groups_snoc]
    refine ⟨nodup_together h1 _ _, fun u => ?_, fun u => ?_, fun u hu => ?_⟩
    · rw [getE_together, endsAt_snoc, h2, h2]
      by_cases h : u = (x.1 - l) % step
      · subst h; simp
      · rw [if_neg h, if_neg (Ne.symm h), List.append_nil]
    · rw [keys_together, endsAt_snoc]
      by_cases h : (x.1 - l) % step = u
      · rw [if_pos h]
        subst h
        simp only [ne_eq, List.append_eq_nil_iff, List.cons_ne_self, and_false, not_false_eq_true, iff_true]
        split
        · assumption
        · simp
      · rw [if_neg h, List.append_nil, ← h3 u]
        split
        · rfl
        · simp [Ne.symm h]
    · rw [keys_together] at hu
      have hm : 0 ≤ (x.1 - l) % step ∧ (x.1 - l) % step < step := ⟨Int.emod_nonneg _ (by omega), Int.emod_lt_of_pos _ hs⟩
      split at hu
      · exact h4 u hu
      · rcases List.mem_append.1 hu with hu | hu
        · exact h4 u hu
        · simp at hu; subst hu; exact hm

/-! ### A span -/
/-- The refills of a list of groups, in turn, up to offset k. -/
def spanL (R : List Int → List Nat) (G : List (Int × List Int)) (n : Nat) (k : Int) : List Nat := (G.takeWhile fun g => decide (g.1 < k)).foldl (fun m g => thenL m (R g.2)) (List.range n)

/-- What a sorted list of groups holds below k + 1, beyond what lies below k. -/
theorem take_succ (G : List (Int × List Int)) (k : Int) (hs : G.Pairwise fun a b => a.1 < b.1) :
    (G.takeWhile fun g => decide (g.1 < k + 1)) = (G.takeWhile fun g => decide (g.1 < k)) ++ G.filter fun g => decide (g.1 = k) := by
  induction G with
  | nil => rfl
  | cons a t ih =>
    rw [List.pairwise_cons] at hs
    have iht := ih hs.2
    by_cases h1 : a.1 < k
    · have e1 : (a :: t).takeWhile (fun g => decide (g.1 < k + 1)) = a :: t.takeWhile (fun g => decide (g.1 < k + 1)) := List.takeWhile_cons_of_pos (by simp; omega)
      have e2 : (a :: t).takeWhile (fun g => decide (g.1 < k)) = a :: t.takeWhile (fun g => decide (g.1 < k)) := List.takeWhile_cons_of_pos (by simpa using h1)
      have e3 : (a :: t).filter (fun g => decide (g.1 = k)) = t.filter (fun g => decide (g.1 = k)) := List.filter_cons_of_neg (by simp; omega)
      rw [e1, e2, e3, iht]; rfl
    · have e2 : (a :: t).takeWhile (fun g => decide (g.1 < k)) = [] := List.takeWhile_cons_of_neg (by simpa using h1)
      have ht : t.takeWhile (fun g => decide (g.1 < k)) = [] := by
        cases t with
        | nil => rfl
        | cons b r =>
          have := hs.1 b (by simp)
          exact List.takeWhile_cons_of_neg (by simp; omega)
      by_cases h2 : a.1 = k
      · have e1 : (a :: t).takeWhile (fun g => decide (g.1 < k + 1)) = a :: t.takeWhile (fun g => decide (g.1 < k + 1)) := List.takeWhile_cons_of_pos (by simp; omega)
        have e3 : (a :: t).filter (fun g => decide (g.1 = k)) = a :: t.filter (fun g => decide (g.1 = k)) := List.filter_cons_of_pos (by simpa using h2)
        rw [e1, e2, e3, iht, ht]; rfl
      · have e1 : (a :: t).takeWhile (fun g => decide (g.1 < k + 1)) = [] := List.takeWhile_cons_of_neg (by simp; omega)
        have e3 : (a :: t).filter (fun g => decide (g.1 = k)) = [] := by
          rw [List.filter_eq_nil_iff]
          intro b hb
          rcases List.mem_cons.1 hb with e | hb
          · subst e; simpa using h2
          · have := hs.1 b hb
            simp; omega
        rw [e1, e2, e3]; rfl

theorem filter_one {G : List (Int × List Int)} (hs : G.Pairwise fun a b => a.1 < b.1) {k : Int} {E : List Int} (h : (k, E) ∈ G) : G.filter (fun g => decide (g.1 = k)) = [(k, E)] := by
  induction G with
  | nil => cases h
  | cons a t ih =>
    rw [List.pairwise_cons] at hs
    rcases List.mem_cons.1 h with e | h
    · subst e
      rw [List.filter_cons_of_pos (by simp)]
      have : t.filter (fun g => decide (g.1 = k)) = [] := by
        rw [List.filter_eq_nil_iff]
        intro b hb
        have := hs.1 b hb
        simp at this ⊢; omega
      rw [this]
    · have := hs.1 _ h
      rw [List.filter_cons_of_neg (by simp at this ⊢; omega)]
      exact ih hs.2 h

theorem span_comp (R : List Int → List Nat) (G : List (Int × List Int)) (n : Nat) (E : Nat → List Int) (hs : G.Pairwise fun a b => a.1 < b.1)
    (hG : ∀ g ∈ G, 0 ≤ g.1) (hE : ∀ k : Nat, E k ≠ [] → ((k : Int), E k) ∈ G) (hE2 : ∀ g ∈ G, ∀ k : Nat, g.1 = (k : Int) → E k ≠ []) : ∀ k : Nat, spanL R G n (k : Int) = comp R E n k
  | 0 => by
    unfold spanL
    have : (G.takeWhile fun g => decide (g.1 < ((0 : Nat) : Int))) = [] := by
      cases G with
      | nil => rfl
      | cons a t =>
        have := hG a (by simp)
        rw [List.takeWhile_cons_of_neg (by simp; omega)]
    rw [this]; rfl
  | k + 1 => by
    have ih := span_comp R G n E hs hG hE hE2 k
    unfold spanL at ih ⊢
    rw [show ((k + 1 : Nat) : Int) = (k : Int) + 1 by omega, take_succ G k hs, List.foldl_append, ih, comp_succ]
    unfold stepf
    by_cases h : E k = []
    · rw [if_pos h]
      have : G.filter (fun g => decide (g.1 = (k : Int))) = [] := by
        rw [List.filter_eq_nil_iff]
        intro g hg
        simp
        intro e
        exact hE2 g hg k e h
      rw [this]; rfl
    · rw [if_neg h, filter_one hs (hE k h)]; rfl
end Go.Proofs.YbulkcemcGreat
