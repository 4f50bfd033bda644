/-
  slices.Clone of a row of times; newIndex; Visit (seat b4030aZD).
-/
import Derived.Test.YbulkcelaGreatDoorCmpct
namespace Go.Proofs.YbulkcelaGreatDoor
open Go.RowKit Go.MapKept Go.Lib Go.Shelf Go.Maps Go.Sort

set_option linter.unusedSimpArgs false in
set_option maxRecDepth 100000 in
theorem clone59_nil (w : World) : Calls Ybaz.prog 59 #[.slice none 0 0] w fun e w' => e = .returned (.slice none 0 0) ∧ w' = w := by
  have hne := Go.Lib.run_eql_slice_nil (P := Ybaz.prog) w 76 29 none 0 0 0 0 Ybaz.underlying76
  go_enter Ybaz.func59, Ybaz.ntmps59
  go_wp2
  go_ret
  exact ⟨rfl, rfl⟩

set_option linter.unusedSimpArgs false in
set_option maxRecDepth 100000 in
theorem clone59 (b c : Nat) (L : List Int) (w : World) (h : TB w b c L.toArray) (hL : L.length ≤ 1000) :
    Calls Ybaz.prog 59 #[.slice (some ⟨b, 0, none⟩) L.length c] w fun e w' => ∃ v, e = .returned v ∧ Below w.heap.size w w' ∧ w'.ownsRow w.heap.size 29 3 v L.length (L.flatMap encT) := by
  have hne := Go.Lib.run_eql_slice_nil (P := Ybaz.prog) w 76 29 (some ⟨b, 0, none⟩) L.length c 0 0 Ybaz.underlying76
  obtain ⟨i0, hi0, hz0, hz1, hz2⟩ := info_parts Ybaz.info29
  have hb1 : Below w.heap.size w (w.alloc (.cells #[] 29)) := (Below.refl _ _).alloc (Nat.le_refl _) _
  have h1 : TB (w.alloc (.cells #[] 29)) b c L.toArray := h.block (Below.heap_alloc _ _ _ h.lt)
  obtain ⟨cur, hc, hs⟩ := h1.blk
  have hnews : ∀ j u, (L.flatMap encT)[j]? = some u → (w.alloc (.cells #[] 29)).cell? (Addr.add ⟨b, 0, none⟩ j) = some u := fun j u hu => by
    have hj : j < L.length * 3 := by
      have := (List.getElem?_eq_some_iff.1 hu).1
      rwa [encT_length] at this
    have hadd : Addr.add ⟨b, 0, none⟩ j = ⟨b, j, none⟩ := by unfold Addr.add; split <;> simp_all
    have hj3 : j / 3 < L.toArray.size := by simp; omega
    have hjl : j / 3 < L.length := by omega
    have he := encT_get L (j / 3) (j % 3) (by omega) (by omega)
    rw [show j / 3 * 3 + j % 3 = j by omega, hu] at he
    rw [hadd, he]
    rcases (show j % 3 = 0 ∨ j % 3 = 1 ∨ j % 3 = 2 by omega) with e1 | e1 | e1
    · rw [e1, show j = j / 3 * 3 by omega, h1.c0 _ hj3]; rfl
    · rw [e1, show j = j / 3 * 3 + 1 by omega, h1.c1 _ hj3]
      simp [encT, List.getD, show (j / 3 * 3 + 1) / 3 = j / 3 by omega, hjl]
    · rw [e1, show j = j / 3 * 3 + 2 by omega, h1.c2 _ hj3]; rfl
  have hown : (w.alloc (.cells #[] 29)).ownsRow w.heap.size 29 3 (.slice (some ⟨w.heap.size, 0, none⟩) 0 0) 0 [] :=
    ⟨rfl, .inr ⟨w.heap.size, 0, #[], rfl, Nat.le_refl _, by rw [alloc_at, if_pos rfl], Nat.le_refl _, by unfold maxLen; omega, rfl, rfl⟩⟩
  obtain ⟨v', w', hap, r1, r2, _⟩ := run_append_own (P := Ybaz.prog) (w.alloc (.cells #[] 29)) w.heap.size 76 76 29 i0 (tv 0) 3 24 Ybaz.underlying76 hi0 hz0 hz1 hz2 rfl (by decide) (.slice (some ⟨w.heap.size, 0, none⟩) 0 0) 0 [] hown ⟨b, 0, none⟩ L.length c (L.flatMap encT) (encT_length L) hnews (fun u hu => by
    obtain ⟨x, _, hx⟩ := List.mem_flatMap.1 hu
    simp [encT] at hx
    rcases hx with rfl | rfl | rfl <;> rfl) (by unfold maxLen; omega) (by omega) (by simp)
  rw [Nat.zero_add, List.nil_append] at r1
  have hA : Aside (w'.ownsRow w.heap.size 29 3 v' L.length (L.flatMap encT) ∧ Below w.heap.size w w') := ⟨r1, hb1.grown r2 (by simp) (fun j e => by simp [Value.ownBlock] at e; omega)⟩
  clear r1 r2 hnews hc hs h1 hb1 hown hi0 hz0 hz1 hz2 h
  go_enter Ybaz.func59, Ybaz.ntmps59
  go_wp2_with (at_builtin; refine wpList_append_run rfl (.tmp 5) (.tmp 6) 76 rfl _ _ rfl rfl hap ?_)
  go_ret
  exact ⟨v', rfl, hA.out.2, hA.out.1⟩

set_option linter.unusedSimpArgs false in
set_option maxRecDepth 100000 in
theorem newIndex55 (p : Option Addr) (n c : Nat) (w : World) : Calls Ybaz.prog 55 #[.slice p n c] w fun e w' => e = .returned (.pointer (some ⟨w.heap.size + 1, 0, none⟩)) ∧ w' = (w.alloc (.map #[] 0)).alloc (.cells #[.slice p n c, .int .i32 0, .int .u32 0, .map (some w.heap.size)] 148) := by
  have hmm := @run_makeMap Ybaz.prog
  go_enter Ybaz.func55, Ybaz.ntmps55
  go_wp2
  go_ret
  exact ⟨by simp, rfl⟩

set_option linter.unusedSimpArgs false in
set_option maxRecDepth 100000 in
theorem visit22 (kb kc n rb i : Nat) (mp : Option Nat) (w : World) (h4 : w.cell? ⟨rb, 4, none⟩ = some (.slice (some ⟨kb, 0, none⟩) n kc)) (hi : i < n) (hv : w.cell? ⟨kb, i * 2, none⟩ = some (.map mp)) :
    Calls Ybaz.prog 22 #[.pointer (some ⟨rb, 0, none⟩), .int .i64 (i : Nat)] w fun e w' => e = .returned (.map mp) ∧ w' = w := by

  have hi' : (i : Int) < (n : Int) := by omega
  go_enter Ybaz.func22, Ybaz.ntmps22
  go_wp2

  go_ret
  exact ⟨rfl, rfl⟩
end Go.Proofs.YbulkcelaGreatDoor
