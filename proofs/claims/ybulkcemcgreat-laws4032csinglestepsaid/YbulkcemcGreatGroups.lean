/-
  LawS4032CSingleStep: groups of blocks in memory (seat b4032aZ).
-/
import Derived.Test.YbulkcemcGreatRmap
namespace Go.Proofs.YbulkcemcGreat
open Go.RowKit

/-! ### Rows of three cells -/
theorem flat3_length (f : Nat → List Value) (hf : ∀ k, (f k).length = 3) : ∀ n, ((List.range n).flatMap f).length = n * 3
  | 0 => rfl
  | n + 1 => by rw [List.range_succ, List.flatMap_append, List.length_append, flat3_length f hf n]; simp [hf]; omega

theorem flat3_get (f : Nat → List Value) (hf : ∀ k, (f k).length = 3) (c : Nat) (hc : c < 3) : ∀ (n k : Nat), k < n → ((List.range n).flatMap f)[k * 3 + c]? = (f k)[c]?
  | 0, k, h => absurd h (Nat.not_lt_zero _)
  | n + 1, k, h => by
    rw [List.range_succ, List.flatMap_append]
    have hl := flat3_length f hf n
    by_cases e : k = n
    · subst e
      rw [List.getElem?_append_right (by omega), hl]
      simp [show k * 3 + c - k * 3 = c by omega]
    · rw [List.getElem?_append_left (by omega)]
      exact flat3_get f hf c hc n k (by omega)

theorem flat3_ext {f : Nat → List Value} (hf : ∀ k, (f k).length = 3) {n : Nat} {l : List Value} (hl : l.length = n * 3) (h : ∀ k c, k < n → c < 3 → l[k * 3 + c]? = (f k)[c]?) : l = (List.range n).flatMap f := by
  refine List.ext_getElem? fun j => ?_
  by_cases hj : j < n * 3
  · have e : j = (j / 3) * 3 + j % 3 := by omega
    rw [e, h _ _ (by omega) (by omega), flat3_get f hf _ (by omega) _ _ (by omega)]
  · rw [List.getElem?_eq_none (by omega), List.getElem?_eq_none (by rw [flat3_length f hf]; omega)]

/-! ### Where a group stands -/
def findK : List (Int × List Int) → Int → Nat → Int
  | [], _, _ => -1
  | (b, _) :: t, a, i => if b = a then (i : Int) else findK t a (i + 1)

theorem find_cases (a sm : Int) : ∀ (G : List (Int × List Int)) (i : Nat), (findK G a i = -1 ∧ togetherL G a sm = G ++ [(a, [sm])]) ∨ ∃ k E, k < G.length ∧ findK G a i = ((i + k : Nat) : Int) ∧ G[k]? = some (a, E) ∧ togetherL G a sm = G.set k (a, E ++ [sm])
  | [], _ => .inl ⟨rfl, rfl⟩
  | (b, E) :: t, i => by
    by_cases h : b = a
    · subst h
      exact .inr ⟨0, E, by simp, by simp [findK], by simp, by simp [togetherL]⟩
    · rcases find_cases a sm t (i + 1) with ⟨h1, h2⟩ | ⟨k, E', h1, h2, h3, h4⟩
      · exact .inl ⟨by simp [findK, h, h1], by simp [togetherL, h, h2]⟩
      · refine .inr ⟨k + 1, E', by simpa using h1, ?_, by simpa using h3, by simp [togetherL, h, h4]⟩
        simp only [findK, if_neg h, h2]
        omega

theorem find_idx (a : Int) : ∀ (G : List (Int × List Int)) (zs : List Grp) (i : Nat), zs.map (·.1) = G.map (·.1) → ∀ x, Lib.idxByFrom (fun _ (y : Grp) => y.1 == a) x zs i = findK G a i
  | [], zs, i, h, x => by
    have : zs = [] := by simpa using h
    subst this; rfl
  | (b, E) :: t, [], i, h, x => by simp at h
  | (b, E) :: t, z :: zs, i, h, x => by
    simp only [List.map_cons, List.cons.injEq] at h
    simp only [Lib.idxByFrom, findK, h.1]
    by_cases e : b = a
    · subst e; simp
    · simp only [e, beq_iff_eq, if_false]
      exact find_idx a t zs (i + 1) h.2 x

/-! ### Groups in memory -/
abbrev keyG (G : List (Int × List Int)) (k : Nat) : Int := (G.getD k (0, [])).1
abbrev endG (G : List (Int × List Int)) (k : Nat) : List Int := (G.getD k (0, [])).2
def cellG (G : List (Int × List Int)) (vs : Nat → Value) (k : Nat) : List Value := [.int .i64 (keyG G k), vs k, .slice none 0 0]
theorem cellG_length (G : List (Int × List Int)) (vs : Nat → Value) (k : Nat) : (cellG G vs k).length = 3 := rfl

structure GrpsAt (B : Nat) (w : World) (v : Value) (G : List (Int × List Int)) (vs : Nat → Value) : Prop where
  row : w.ownsRow B 54 3 v G.length ((List.range G.length).flatMap (cellG G vs))
  ends : ∀ k, k < G.length → w.ownsRow B 39 2 (vs k) (endG G k).length ((endG G k).flatMap encB)
  apart : ∀ k g, k < G.length → (vs k).ownBlock = some g → v.ownBlock ≠ some g
  apart2 : ∀ k k' g, k < G.length → k' < G.length → k ≠ k' → (vs k).ownBlock = some g → (vs k').ownBlock ≠ some g

theorem row_below {B : Nat} {w w' : World} {e size n : Nat} {v : Value} {xs : List Value} (h : w.ownsRow B e size v n xs) (hb : Below w.heap.size w w') : w'.ownsRow B e size v n xs := by
  obtain ⟨h0, h1 | ⟨g, cap, cur, hv, hB, hh, rest⟩⟩ := h
  · exact ⟨h0, .inl h1⟩
  · exact ⟨h0, .inr ⟨g, cap, cur, hv, hB, (hb.block g (Array.getElem?_eq_some_iff.1 hh).1).trans hh, rest⟩⟩

theorem GrpsAt.below {B : Nat} {w w' : World} {v : Value} {G : List (Int × List Int)} {vs : Nat → Value} (h : GrpsAt B w v G vs) (hb : Below w.heap.size w w') : GrpsAt B w' v G vs :=
  ⟨row_below h.row hb, fun k hk => row_below (h.ends k hk) hb, h.apart, h.apart2⟩

theorem grps_nil (B : Nat) (w : World) : GrpsAt B w (.slice none 0 0) [] (fun _ => .slice none 0 0) :=
  ⟨World.ownsRow_nil _ _ _ _, fun _ hk => absurd hk (Nat.not_lt_zero _), fun _ _ hk => absurd hk (Nat.not_lt_zero _), fun _ _ _ hk => absurd hk (Nat.not_lt_zero _)⟩

/-- A group is added, with no block yet. -/
theorem GrpsAt.push {B : Nat} {w w' : World} {v v' : Value} {G : List (Int × List Int)} {vs : Nat → Value} {a : Int} (h : GrpsAt B w v G vs)
    (hr : w'.ownsRow B 54 3 v' (G.length + 1) ((List.range G.length).flatMap (cellG G vs) ++ [.int .i64 a, .slice none 0 0, .slice none 0 0])) (hg : w.grownBy w' v.ownBlock) (hv : v'.ownBlock = v.ownBlock ∨ v'.ownBlock = some w.heap.size) :
    GrpsAt B w' v' (G ++ [(a, [])]) (fun k => if k = G.length then .slice none 0 0 else vs k) := by
  have hlt : ∀ k g, k < G.length → (vs k).ownBlock = some g → g < w.heap.size := fun k g hk e => ((h.ends k hk).lt g e).2
  have hG : ∀ k, k < G.length → (G ++ [(a, [])]).getD k (0, []) = G.getD k (0, []) := fun k hk => by
    simp [List.getD, List.getElem?_append_left hk]
  have hGl : (G ++ [(a, ([] : List Int))]).getD G.length (0, []) = (a, []) := by simp [List.getD]
  have hlen : (G ++ [(a, ([] : List Int))]).length = G.length + 1 := by simp
  have hfl := flat3_length _ (cellG_length G vs) G.length
  refine ⟨?_, fun k hk => ?_, fun k g hk e => ?_, fun k k' g hk hk' hne e => ?_⟩
  · rw [hlen]
    have e : ((List.range G.length).flatMap (cellG G vs) ++ [.int .i64 a, .slice none 0 0, .slice none 0 0]) = (List.range (G.length + 1)).flatMap (cellG (G ++ [(a, [])]) (fun k => if k = G.length then .slice none 0 0 else vs k)) := by
      refine flat3_ext (fun _ => rfl) (by rw [List.length_append, hfl]; simp; omega) fun k c hk hc => ?_
      by_cases hkn : k < G.length
      · rw [List.getElem?_append_left (by rw [hfl]; omega), flat3_get _ (cellG_length G vs) c hc _ _ hkn]
        unfold cellG keyG
        rw [hG k hkn]
        dsimp only
        rw [if_neg (by omega)]
      · obtain rfl : k = G.length := by omega
        rw [List.getElem?_append_right (by rw [hfl]; omega), hfl, show G.length * 3 + c - G.length * 3 = c by omega]
        unfold cellG keyG
        rw [hGl]
        dsimp only
        rw [if_pos rfl]
    rw [← e]
    exact hr
  · rw [hlen] at hk
    by_cases hkn : k = G.length
    · subst hkn
      simp only [if_true, endG, hGl]
      exact World.ownsRow_nil _ _ _ _
    · simp only [if_neg hkn, endG, hG k (by omega)]
      refine (h.ends k (by omega)).kept hg ?_
      cases hb : (vs k).ownBlock with
      | none => exact .inl rfl
      | some g => exact .inr (fun e => h.apart k g (by omega) hb e.symm)
  · rw [hlen] at hk
    by_cases hkn : k = G.length
    · simp [hkn, Value.ownBlock] at e
    · simp only [if_neg hkn] at e
      rcases hv with hv | hv
      · rw [hv]; exact h.apart k g (by omega) e
      · rw [hv]
        intro e2
        have := hlt k g (by omega) e
        cases e2
        omega
  · rw [hlen] at hk hk'
    by_cases hkn : k = G.length
    · simp [hkn, Value.ownBlock] at e
    · simp only [if_neg hkn] at e
      by_cases hkn' : k' = G.length
      · simp [hkn', Value.ownBlock]
      · simp only [if_neg hkn']
        exact h.apart2 k k' g (by omega) (by omega) hne e

/-- A block is added to a group. -/
theorem GrpsAt.put {B : Nat} {w w2 : World} {G : List (Int × List Int)} {vs : Nat → Value} {vb cap k : Nat} {a sm : Int} {E : List Int} {ev2 : Value} (h : GrpsAt B w (.slice (some ⟨vb, 0, none⟩) G.length cap) G vs)
    (hk : k < G.length) (hGk : G[k]? = some (a, E)) (hr : w2.ownsRow B 39 2 ev2 (E.length + 1) (E.flatMap encB ++ encB sm)) (hg : w.grownBy w2 (vs k).ownBlock) (hev : ev2.ownBlock = (vs k).ownBlock ∨ ev2.ownBlock = some w.heap.size) :
    GrpsAt B (w2.setCell ⟨vb, k * 3 + 1, none⟩ ev2) (.slice (some ⟨vb, 0, none⟩) G.length cap) (G.set k (a, E ++ [sm])) (fun j => if j = k then ev2 else vs j) := by
  have hlt : ∀ j g, j < G.length → (vs j).ownBlock = some g → g < w.heap.size := fun j g hj e => ((h.ends j hj).lt g e).2
  have hvb : vb < w.heap.size := (h.row.lt vb rfl).2
  have hne : ev2.ownBlock ≠ some vb := by
    rcases hev with e | e
    · rw [e]; intro e2; exact h.apart k vb hk e2 rfl
    · rw [e]; intro e2; cases e2; omega
  have hGj : ∀ j, j ≠ k → (G.set k (a, E ++ [sm])).getD j (0, []) = G.getD j (0, []) := fun j hj => by
    simp [List.getD, List.getElem?_set_ne (Ne.symm hj)]
  have hGkk : (G.set k (a, E ++ [sm])).getD k (0, []) = (a, E ++ [sm]) := by simp [List.getD, hk]
  have hGk2 : G.getD k (0, []) = (a, E) := by simp [List.getD, hGk]
  have hlen : (G.set k (a, E ++ [sm])).length = G.length := by simp
  have hset : ∀ {e size n : Nat} {v : Value} {xs : List Value}, v.ownBlock ≠ some vb → w2.ownsRow B e size v n xs → (w2.setCell ⟨vb, k * 3 + 1, none⟩ ev2).ownsRow B e size v n xs := fun {e size n v xs} hn h2 => by
    obtain ⟨h0, h1 | ⟨g, cp, cur, hv, hB, hh, rest⟩⟩ := h2
    · exact ⟨h0, .inl h1⟩
    · subst hv
      exact ⟨h0, .inr ⟨g, cp, cur, rfl, hB, (Below.heap_setCell _ _ _ _ (by intro e; exact hn (by rw [show g = vb from e]; rfl))).trans hh, rest⟩⟩
  refine ⟨?_, fun j hj => ?_, fun j g hj e => ?_, fun j j' g hj hj' hne2 e => ?_⟩
  · rw [hlen]
    have hrow := h.row.kept hg (.inr (fun e => h.apart k vb hk e.symm rfl))
    obtain ⟨h0, ⟨e1, _⟩ | ⟨g, cp, cur, e1, hB, hh, hncap, hcm, hcs, htk⟩⟩ := hrow
    · cases e1
    · cases e1
      have hfl := flat3_length _ (cellG_length (G.set k (a, E ++ [sm])) (fun j => if j = k then ev2 else vs j)) G.length
      refine ⟨hfl, .inr ⟨vb, cap, cur.setIfInBounds (k * 3 + 1) ev2, rfl, hB, Joins.block_setCell (i := k * 3 + 1) hh _, hncap, hcm, by simpa using hcs, ?_⟩⟩
      refine flat3_ext (fun _ => rfl) (by simp; omega) fun j c hj hc => ?_
      have hold : cur.toList[j * 3 + c]? = (cellG G vs j)[c]? := by
        have := flat3_get _ (cellG_length G vs) c hc _ _ hj
        rw [← htk, List.getElem?_take, if_pos (by omega)] at this
        exact this
      rw [List.getElem?_take, if_pos (by omega), Array.toList_setIfInBounds, List.getElem?_set]
      by_cases hjk : j = k
      · subst hjk
        unfold cellG keyG at hold ⊢
        rw [hGk2] at hold
        rw [hGkk]
        dsimp only at hold ⊢
        rw [if_pos rfl]
        by_cases hc1 : c = 1
        · subst hc1
          rw [if_pos rfl, if_pos (by simp; omega)]; rfl
        · rw [if_neg (by omega), hold]
          rcases (show c = 0 ∨ c = 2 by omega) with rfl | rfl <;> rfl
      · rw [if_neg (by omega), hold]
        unfold cellG keyG
        rw [hGj j hjk]
        dsimp only
        rw [if_neg hjk]
  · rw [hlen] at hj
    by_cases hjk : j = k
    · subst hjk
      simp only [if_true, endG, hGkk]
      have : (E ++ [sm]).flatMap encB = E.flatMap encB ++ encB sm := by simp
      rw [this, show (E ++ [sm]).length = E.length + 1 by simp]
      exact hset hne hr
    · simp only [if_neg hjk, endG, hGj j hjk]
      refine hset (fun e => h.apart j vb hj e rfl) ((h.ends j hj).kept hg ?_)
      cases hb : (vs j).ownBlock with
      | none => exact .inl rfl
      | some g => exact .inr (fun e => h.apart2 j k g hj hk hjk hb e.symm)
  · rw [hlen] at hj
    by_cases hjk : j = k
    · simp only [if_pos hjk] at e
      rintro e2
      cases e2
      exact hne e
    · simp only [if_neg hjk] at e
      exact h.apart j g hj e
  · rw [hlen] at hj hj'
    by_cases hjk : j = k
    · simp only [if_pos hjk] at e
      have hj'k : j' ≠ k := fun e2 => hne2 (by rw [hjk, e2])
      simp only [if_neg hj'k]
      rcases hev with e3 | e3
      · rw [e3] at e
        exact h.apart2 k j' g hk hj' (fun e4 => hj'k e4.symm) e
      · rw [e3] at e
        cases e
        intro e4
        have := hlt j' _ hj' e4
        omega
    · simp only [if_neg hjk] at e
      by_cases hj'k : j' = k
      · simp only [if_pos hj'k]
        rcases hev with e3 | e3
        · rw [e3]; exact h.apart2 j k g hj hk hjk e
        · rw [e3]
          intro e4
          cases e4
          have := hlt j _ hj e
          omega
      · simp only [if_neg hj'k]
        exact h.apart2 j j' g hj hj' hne2 e
end Go.Proofs.YbulkcemcGreat
