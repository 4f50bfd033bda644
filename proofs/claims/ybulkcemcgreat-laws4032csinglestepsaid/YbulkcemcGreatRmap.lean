/-
  LawS4032CSingleStep: 'refillMap' and '(*spans).refill' by their contracts (seat b4032aZ).
-/
import Derived.Test.YbulkcemcGreatPhases
namespace Go.Proofs.YbulkcemcGreat
open Go.RowKit Go.Shelf Go.Lib Go.Sort

theorem mostFrom_length : ∀ (f : Nat) (l : List Int) (st : Nat × List Int), (mostFrom f l st).2.length ≤ st.2.length + l.length
  | 0, l, st => by simp [mostFrom]
  | _ + 1, [], st => by simp [mostFrom]
  | f + 1, x :: t, st => by
    have ih := mostFrom_length f (t.dropWhile (· == x)) (mostStep st x (1 + (t.takeWhile (· == x)).length))
    have hd := drop_le t x
    have hs : (mostStep st x (1 + (t.takeWhile (· == x)).length)).2.length ≤ st.2.length + 1 := by
      unfold mostStep
      split
      · simp
      · split <;> simp
    simp only [mostFrom, List.length_cons]
    omega

/-- What putting back the blocks E does, over the SMs S. -/
def rmap (S E : List Int) : List Nat := rmapM S (mostOf (sortI E))

theorem most_facts {S E : List Int} (h0 : E ≠ []) (hES : ∀ x ∈ E, x ∈ S) (hl : E.length ≤ 1000) : mostOf (sortI E) ≠ [] ∧ (mostOf (sortI E)).length ≤ 1000 ∧ (mostOf (sortI E)).Pairwise (· ≤ ·) ∧ ∀ x ∈ mostOf (sortI E), x ∈ S := by
  have hne : sortI E ≠ [] := fun e => h0 (List.length_eq_zero_iff.1 (by rw [← sortI_length E, e]; rfl))
  obtain ⟨h1, h2, h3⟩ := mostOf_facts (sortI_sorted E) hne
  refine ⟨h3, ?_, h1, fun x hx => hES x (sortI_mem.1 (h2 x hx))⟩
  have := mostFrom_length (sortI E).length (sortI E) (0, [])
  rw [sortI_length] at this
  unfold mostOf
  rw [sortI_length]
  simp at this
  omega

theorem ok_rmap {S E : List Int} (h0 : E ≠ []) (hES : ∀ x ∈ E, x ∈ S) (hl : E.length ≤ 1000) : Ok S.length (rmap S E) := by
  obtain ⟨h1, _, _, h4⟩ := most_facts h0 hES hl
  exact ok_rmapM h1 h4

/-- The SMs in memory. -/
structure SmsAt (w : World) (sb : Nat) (S : List Int) : Prop where
  lt : sb < w.heap.size
  ints : IntsAt w sb S
  pos : 0 < S.length
  few : S.length ≤ 256
  sorted : S.Pairwise (· ≤ ·)
  small : ∀ x ∈ S, 0 ≤ x ∧ x ≤ 255

theorem SmsAt.of_but {w w' : World} {sb b : Nat} {S : List Int} (h : SmsAt w sb S) (hb : But b w w') (hne : sb ≠ b) : SmsAt w' sb S :=
  ⟨by have := hb.size; have := h.lt; omega, fun j hj => (hb.cell sb j hne h.lt).trans (h.ints j hj), h.pos, h.few, h.sorted, h.small⟩
theorem SmsAt.below {w w' : World} {sb B : Nat} {S : List Int} (h : SmsAt w sb S) (hb : Below B w w') (hB : sb < B) : SmsAt w' sb S :=
  ⟨by have := hb.size; have := h.lt; omega, h.ints.below hb hB, h.pos, h.few, h.sorted, h.small⟩

theorem refillMap (sb sc b c : Nat) (S E : List Int) (w : World) (hS : SmsAt w sb S) (hbs : sb ≠ b) (hbw : b < w.heap.size) (hH : HoldsK encB 2 w b 0 E.toArray) (h0 : E ≠ []) (hES : ∀ x ∈ E, x ∈ S) (hl : E.length ≤ 1000) :
    Calls Ybaz.prog 8 #[.slice (some ⟨sb, 0, none⟩) S.length sc, .slice (some ⟨b, 0, none⟩) E.length c] w fun e w' => ∃ v, e = .returned v ∧ MapAt w' v (rmap S E) ∧ But b w w' ∧ ∀ q, v.ownBlock = some q → w.heap.size ≤ q := by
  obtain ⟨h1, h2, h3, _⟩ := most_facts h0 hES hl
  exact refillMap8 sb sc b _ S _ w hS.ints hS.lt hbs hbw hS.pos hS.few hS.sorted hS.small h1 h2 h3 (phases22 b c E w hH hbw h0 hl)

set_option maxHeartbeats 1000000 in
theorem refill16 (spb sb sc b c : Nat) (S E : List Int) (w : World) (hp : w.cell? ⟨spb, 4, none⟩ = some (.slice (some ⟨sb, 0, none⟩) S.length sc)) (hS : SmsAt w sb S) (hbs : sb ≠ b) (hbw : b < w.heap.size) (hH : HoldsK encB 2 w b 0 E.toArray) (h0 : E ≠ []) (hES : ∀ x ∈ E, x ∈ S) (hl : E.length ≤ 1000) :
    Calls Ybaz.prog 16 #[.pointer (some ⟨spb, 0, none⟩), .slice (some ⟨b, 0, none⟩) E.length c] w fun e w' => ∃ v, e = .returned v ∧ MapAt w' v (rmap S E) ∧ But b w w' ∧ ∀ q, v.ownBlock = some q → w.heap.size ≤ q := by
  have h := refillMap sb sc b c S E w hS hbs hbw hH h0 hES hl
  clear hH hS
  go_enter Ybaz.func16, Ybaz.ntmps16
  go_wp2_with (go_at_call 8; refine h.mono ?_; rintro e w' ⟨v, rfl, hm, hb, hq⟩)
  go_ret
  exact ⟨v, rfl, hm, hb, hq⟩
end Go.Proofs.YbulkcemcGreat
