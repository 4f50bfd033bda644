/-
  The cuts and the pieces, without Go (seat b4030aZD).
-/
import Derived.Test.YbulkcelaGreatDoorBndV
namespace Go.Proofs.YbulkcelaGreatDoor
open Go.RowKit Go.MapKept Go.Lib Go.Shelf Go.Maps Go.Sort

/-- The cuts of a window. -/
def cutsOf (x y : Int) (bd : List Int) : List Int := x :: (bd.filter (fun b => decide (x < b) && decide (b < y)) ++ [y])
/-- The count of a piece. -/
def cntOf (d sp c c' : Int) : Nat := ((floatBits .quo .f64 (fi (c' - c)) (fi sp)).bind fun q => floatBits .mul .f64 (fi d) q).getD 0
/-- The pieces of a kind. -/
def pieces (i : Nat) (d sp : Int) (cs : List Int) : List (Nat × Nat × Int) := List.zipWith (fun c c' => (i, cntOf d sp c c', c)) cs cs.tail
/-- A piece in memory. -/
def encP (p : Nat × Nat × Int) : List Value := [.int .i64 (p.1 : Nat), .float .f64 p.2.1, .int .u64 0, .int .i64 p.2.2, .pointer none, .bool false]
/-- The pieces of the first n kinds. -/
def allP (sp : Int) (ds : List Int) (cs : Nat → List Int) (n : Nat) : List (Nat × Nat × Int) := (List.range n).flatMap fun i => pieces i (ds.getD i 0) sp (cs i)

theorem allP_succ (sp : Int) (ds : List Int) (cs : Nat → List Int) (n : Nat) : allP sp ds cs (n + 1) = allP sp ds cs n ++ pieces n (ds.getD n 0) sp (cs n) := by
  unfold allP
  rw [List.range_succ, List.flatMap_append]
  simp
theorem cutsOf_length (x y : Int) (bd : List Int) : 2 ≤ (cutsOf x y bd).length ∧ (cutsOf x y bd).length ≤ bd.length + 2 := by
  have := List.length_filter_le (fun b => decide (x < b) && decide (b < y)) bd
  unfold cutsOf
  simp
  omega
theorem pieces_length (i : Nat) (d sp : Int) (cs : List Int) : (pieces i d sp cs).length = cs.length - 1 := by
  unfold pieces
  simp
theorem pieces_get (i : Nat) (d sp : Int) (cs : List Int) (j : Nat) (hj : j + 1 < cs.length) : (pieces i d sp cs)[j]? = some (i, cntOf d sp (cs.getD j 0) (cs.getD (j + 1) 0), cs.getD j 0) := by
  unfold pieces
  rw [List.getElem?_zipWith]
  have h1 : cs[j]? = some (cs.getD j 0) := by simp [List.getD, show j < cs.length by omega]
  have h2 : cs.tail[j]? = some (cs.getD (j + 1) 0) := by
    rw [List.getElem?_tail]
    simp [List.getD, hj]
  rw [h1, h2]
theorem take_next {α : Type} {l : List α} {j : Nat} {x : α} (h : l[j]? = some x) : l.take (j + 1) = l.take j ++ [x] := by
  rw [List.take_add_one, h]; rfl
theorem allP_get (sp : Int) (ds : List Int) (cs : Nat → List Int) (n i j : Nat) (hi : i < n) (hj : j < (pieces i (ds.getD i 0) sp (cs i)).length) : (allP sp ds cs n)[(allP sp ds cs i).length + j]? = (pieces i (ds.getD i 0) sp (cs i))[j]? := by
  induction n with
  | zero => omega
  | succ n ih =>
    rw [allP_succ]
    by_cases e : i = n
    · subst e
      rw [List.getElem?_append_right (by omega)]
      congr 1
      omega
    · have h1 := ih (by omega)
      have h2 : (allP sp ds cs n)[(allP sp ds cs i).length + j]? ≠ none := by
        rw [h1, List.getElem?_eq_getElem hj]; simp
      have h3 : (allP sp ds cs i).length + j < (allP sp ds cs n).length := by
        rcases Nat.lt_or_ge ((allP sp ds cs i).length + j) (allP sp ds cs n).length with h | h
        · exact h
        · exact absurd (List.getElem?_eq_none h) h2
      rw [List.getElem?_append_left h3]
      exact h1
theorem allP_length (sp : Int) (ds : List Int) (cs : Nat → List Int) (B : Nat) (hc : ∀ i, (cs i).length ≤ B) : ∀ n, (allP sp ds cs n).length ≤ n * B
  | 0 => by simp [allP]
  | n + 1 => by
    rw [allP_succ, List.length_append, pieces_length]
    have := allP_length sp ds cs B hc n
    have := hc n
    rw [Nat.succ_mul]
    omega
theorem encP_length (L : List (Nat × Nat × Int)) : (L.flatMap encP).length = L.length * 6 := by
  induction L with
  | nil => rfl
  | cons a l ih => rw [List.flatMap_cons, List.length_append, ih]; simp [encP]; omega
theorem encP_get (L : List (Nat × Nat × Int)) (k c : Nat) (p : Nat × Nat × Int) (hc : c < 6) (hk : L[k]? = some p) : (L.flatMap encP)[k * 6 + c]? = (encP p)[c]? := by
  induction L generalizing k with
  | nil => simp at hk
  | cons a l ih =>
    rw [List.flatMap_cons]
    have hl : (encP a).length = 6 := rfl
    cases k with
    | zero =>
      simp at hk
      subst hk
      rw [List.getElem?_append_left (by omega)]
      simp
    | succ k =>
      rw [List.getElem?_append_right (by omega), hl]
      rw [show (k + 1) * 6 + c - 6 = k * 6 + c by omega]
      exact ih k (by simpa using hk)

theorem compact_map (f : Int → Int) (hf : ∀ a b, f a = f b → a = b) (l : List Int) : compact (l.map f) = (compact l).map f := by
  unfold compact compactUpTo
  rw [List.map_map, List.length_map]
  have hg : ∀ j, j < l.length → (l.map f).toArray[j]! = f (l.toArray[j]!) := fun j hj => by
    rw [getElem!_pos _ _ (by simpa using hj), getElem!_pos _ _ (by simpa using hj)]
    simp
  have hk : ∀ j, j < l.length → keeps (l.map f).toArray j = keeps l.toArray j := fun j hj => by
    unfold keeps
    rw [hg j hj]
    rcases Nat.eq_zero_or_pos j with e | e
    · subst e; simp
    · rw [hg (j - 1) (by omega)]
      by_cases h : l.toArray[j]! = l.toArray[j - 1]!
      · rw [h]; simp
      · have h' : f l.toArray[j]! ≠ f l.toArray[j - 1]! := fun e => h (hf _ _ e)
        rw [decide_eq_decide]
        constructor
        · intro hh
          rcases hh with hh | _
          · omega
          · exact .inr h
        · intro hh
          rcases hh with hh | _
          · omega
          · exact .inr h'
  rw [List.filter_congr (q := keeps l.toArray) (fun j hj => hk j (List.mem_range.1 hj))]
  refine List.map_congr_left fun j hj => ?_
  exact hg j (List.mem_range.1 (List.mem_filter.1 hj).1)

theorem sortI_map (f : Int → Int) (hf : ∀ a b, a ≤ b ↔ f a ≤ f b) (l : List Int) : sortI (l.map f) = (sortI l).map f := by
  unfold sortI
  refine (List.map_mergeSort fun a _ b _ => ?_).symm
  simp [hf a b]

theorem tmL_map (f : Int → Int) (S E : Nat → Int) (is : List Nat) : tmL (fun i => f (S i)) (fun i => f (E i)) is = (tmL S E is).map f := by
  unfold tmL
  induction is with
  | nil => rfl
  | cons a l ih => rw [List.flatMap_cons, List.flatMap_cons, List.map_append, ih]; rfl

theorem bdK_map (B : Int) (V : Nat → Nat) (S E : Nat → Int) (len : Nat) (k : Int) : bdK V (fun i => B + S i) (fun i => B + E i) len k = (bdK V S E len k).map (B + ·) := by
  unfold bdK
  rw [tmL_map (B + ·), sortI_map (B + ·) (fun a b => by omega), compact_map (B + ·) (fun a b h => by simpa using h)]

theorem cutsOf_map (B x y : Int) (bd : List Int) : cutsOf (B + x) (B + y) (bd.map (B + ·)) = (cutsOf x y bd).map (B + ·) := by
  unfold cutsOf
  simp only [List.map_cons, List.map_append, List.map_nil, List.filter_map]
  congr 3
  refine List.filter_congr fun b _ => ?_
  simp

theorem getD_map (B : Int) (l : List Int) (j : Nat) (hj : j < l.length) : (l.map (B + ·)).getD j 0 = B + l.getD j 0 := by
  simp [List.getD, hj]

theorem compact_le (l : List Int) : (compact l).length ≤ l.length := by
  unfold compact compactUpTo
  rw [List.length_map]
  exact Nat.le_trans (List.length_filter_le _ _) (by simp)

theorem bdK_le (V : Nat → Nat) (S E : Nat → Int) (len : Nat) (k : Int) : (bdK V S E len k).length ≤ len * 2 := by
  unfold bdK
  refine Nat.le_trans (compact_le _) ?_
  rw [sortI_length, tmL_length]
  have := flK_le V len k
  omega

theorem bdK_mem {V : Nat → Nat} {S E : Nat → Int} {len : Nat} {k x : Int} (h : x ∈ bdK V S E len k) : ∃ i, i < len ∧ (x = S i ∨ x = E i) := by
  unfold bdK compact compactUpTo at h
  obtain ⟨j, hj, rfl⟩ := List.mem_map.1 h
  have hjl := List.mem_range.1 (List.mem_filter.1 hj).1
  rw [getElem!_pos _ _ (by simpa using hjl)]
  have hm : (sortI (tmL S E (flK V len k))).toArray[j]'(by simpa using hjl) ∈ sortI (tmL S E (flK V len k)) := by simp
  rw [sortI_mem] at hm
  obtain ⟨y, hy⟩ : ∃ y, (sortI (tmL S E (flK V len k))).toArray[j]'(by simpa using hjl) = y := ⟨_, rfl⟩
  rw [hy] at hm ⊢
  unfold tmL at hm
  obtain ⟨i, hi, hx⟩ := List.mem_flatMap.1 hm
  refine ⟨i, flK_lt hi, ?_⟩
  simpa using hx

theorem sortI_bounds {l : List Int} {x : Int} (h : x ∈ compact (sortI l)) : x ∈ l := by
  unfold compact compactUpTo at h
  obtain ⟨j, hj, rfl⟩ := List.mem_map.1 h
  have hjl := List.mem_range.1 (List.mem_filter.1 hj).1
  rw [getElem!_pos _ _ (by simpa using hjl)]
  have hm : (sortI l).toArray[j]'(by simpa using hjl) ∈ sortI l := by simp
  rwa [sortI_mem] at hm

theorem flK_neg (V : Nat → Nat) (len : Nat) : flK V len (-1) = [] := by
  unfold flK
  rw [List.filter_eq_nil_iff]
  intro a _
  simp
theorem bdK_neg (V : Nat → Nat) (S E : Nat → Int) (len : Nat) : bdK V S E len (-1) = [] := by
  have h := compact_le (sortI (tmL S E (flK V len (-1))))
  rw [sortI_length, tmL_length, flK_neg] at h
  unfold bdK
  rw [flK_neg]
  exact List.eq_nil_of_length_eq_zero (by simpa using h)
theorem compact_strict {l : List Int} (h : l.Pairwise (· ≤ ·)) : (compact l).Pairwise (· < ·) := by
  unfold compact compactUpTo
  rw [List.pairwise_map, List.pairwise_filter]
  refine List.pairwise_lt_range.imp_of_mem ?_
  intro a b ha hb hab _ hkb
  have hal := List.mem_range.1 ha
  have hbl := List.mem_range.1 hb
  have hs := List.pairwise_iff_getElem.1 h
  have e : ∀ j (hj : j < l.length), l.toArray[j]! = l[j] := fun j hj => by rw [getElem!_pos _ _ (by simpa using hj)]; simp
  have h1 : l.toArray[b]! ≠ l.toArray[b - 1]! := by
    unfold keeps at hkb
    have := of_decide_eq_true hkb
    rcases this with h0 | h0
    · omega
    · exact h0
  rw [e a hal]
  rw [e b hbl] at h1 ⊢
  rw [e (b - 1) (by omega)] at h1
  have h2 := hs (b - 1) b (by omega) hbl (by omega)
  by_cases hab1 : a = b - 1
  · subst hab1; omega
  · have h3 := hs a (b - 1) hal (by omega) (by omega)
    omega

theorem cutsOf_strict {x y : Int} {bd : List Int} (hxy : x < y) (h : bd.Pairwise (· < ·)) : (cutsOf x y bd).Pairwise (· < ·) := by
  unfold cutsOf
  rw [List.pairwise_cons, List.pairwise_append]
  refine ⟨fun b hb => ?_, h.filter _, by simp, fun a ha b hb => ?_⟩
  · rcases List.mem_append.1 hb with hb | hb
    · have := (List.mem_filter.1 hb).2
      simp at this
      omega
    · simp at hb; omega
  · have := (List.mem_filter.1 ha).2
    simp at this hb
    omega

theorem cutsOf_mem {x y : Int} {bd : List Int} {c : Int} (hc : c ∈ cutsOf x y bd) : c = x ∨ c = y ∨ c ∈ bd := by
  unfold cutsOf at hc
  rcases List.mem_cons.1 hc with hc | hc
  · exact .inl hc
  · rcases List.mem_append.1 hc with hc | hc
    · exact .inr (.inr (List.mem_filter.1 hc).1)
    · simp at hc; exact .inr (.inl hc)

theorem bdK_strict (V : Nat → Nat) (S E : Nat → Int) (len : Nat) (k : Int) : (bdK V S E len k).Pairwise (· < ·) := compact_strict (sortI_sorted _)

theorem getD_lt {l : List Int} (h : l.Pairwise (· < ·)) {m : Nat} (hm : m + 1 < l.length) : l.getD m 0 < l.getD (m + 1) 0 := by
  have := List.pairwise_iff_getElem.1 h m (m + 1) (by omega) hm (by omega)
  simpa [List.getD, hm, show m < l.length by omega] using this

theorem getD_mem {l : List Int} {m : Nat} (hm : m < l.length) : l.getD m 0 ∈ l := by
  simp [List.getD, hm]

theorem row_time {w : World} {base cg cap : Nat} {L : List Int} (h : w.ownsRow base 29 3 (.slice (some ⟨cg, 0, none⟩) L.length cap) L.length (L.flatMap encT)) {k : Nat} (hk : k < L.length) :
    cg < w.heap.size ∧ w.cell? ⟨cg, k * 3, none⟩ = some (.int .u64 0) ∧ w.cell? ⟨cg, k * 3 + 1, none⟩ = some (.int .i64 (L.getD k 0)) ∧ w.cell? ⟨cg, k * 3 + 2, none⟩ = some (.pointer none) := by
  obtain ⟨hT, _, _⟩ := TB.of_row h
  obtain ⟨_, ⟨e, _⟩ | ⟨g, cp, cur, e, h2, h3, h4, h5, h6, h7⟩⟩ := h
  · cases e
  cases e
  have hc : ∀ c, c < 3 → cur[k * 3 + c]? = (encT (L.getD k 0))[c]? := fun c hc => by
    have g := encT_get L k c hc hk
    rw [← h7, List.getElem?_take, if_pos (by omega)] at g
    rw [← g]; simp
  exact ⟨hT.lt, (Joins.cell_of_block h3 _).trans (hc 0 (by omega)), (Joins.cell_of_block h3 _).trans (hc 1 (by omega)), (Joins.cell_of_block h3 _).trans (hc 2 (by omega))⟩
end Go.Proofs.YbulkcelaGreatDoor
