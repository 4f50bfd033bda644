/-
  'slices.Sorted(maps.Keys(m))' AT THIS DUMP (the guide's lay-iter.mjs; the layings in plain words: YbulkcelaShelf.lean), AND THE SAME FOR A MAP SAID WEAKLY (seat b4030a).
-/
import Derived.Test.YbulkcelaShelf
import Derived.Test.YbulkcelaBuild
namespace Go.Proofs
open Go.RowKit Go.Maps Go.Sort Go.Shelf
/-- slices.Sort's two contracts at this dump, at the fence that asks nothing. -/
theorem Yba.sorts13 (m : Nat) : AnyZ.SortsIn Yba.prog Yba.sorted13_ren Fence.wide m :=
  ⟨fun blk off cap ss W hH hblk hsz => callsIn_wide.2 (AnyM.slices_Sort_string Yba.sort22 blk off cap ss W hH hblk hsz),
   fun p cap W => callsIn_wide.2 (AnyM.slices_Sort_string_none Yba.sort22 p cap W)⟩

/-- **maps.Keys[map[string]map[string]bool,string,map[string]bool], at whatever map, the nil one too:** a function value over ONE NEW BLOCK, which holds the map. -/
theorem Yba.maps_Keys_14 (mb : Option Nat) (W : World) : CallsIn Fence.wide 5 Yba.prog 14 #[.map mb] W fun e w' => e = .returned (.func (.func 23) #[] #[.pointer (some ⟨W.heap.size, 0, none⟩)]) ∧ w' = W.alloc (.cells #[.map mb] 38) :=
  AnyZ.keys_in Yba.keys14 Fence.wide 5 trivial rfl mb W

set_option maxHeartbeats 1000000 in
/-- **slices.Sorted[string] AT WHAT maps.Keys[map[string]map[string]bool,string,map[string]bool] HANDED BACK FOR A MAP THAT IS NOT nil** ('w': the world AHEAD of maps.Keys' call): A NEW SLICE THAT HOLDS THE MAP's KEYS, SORTED; nil just where it has none; nothing that lay before has turned. -/
theorem Yba.slices_Sorted_keys_13_14 {H : Type} (b nn : Nat) (D0 : DataW H) (R : Value → Option (DataW H × List MemPlace)) (w : World) (hown : w.ownsMap Yba.prog 9 R b nn D0) (hmax : Maps.size D0 ≤ maxLen) (hbytes : Maps.size D0 * 16 ≤ 140737488355328) :
    CallsIn Fence.wide 5 Yba.prog 13 #[.func (.func 23) #[] #[.pointer (some ⟨w.heap.size, 0, none⟩)]] (w.alloc (.cells #[.map (some b)] 38)) fun e w' => ∃ (v : Value) (ss : List (List UInt8)), e = .returned v ∧ ss.Perm (strKeys D0) ∧
      w'.ownsRow (w.alloc (.cells #[.map (some b)] 38)).heap.size 9 1 v ss.length ((ss.mergeSort (fun x y => decide (x ≤ y))).map encStr) ∧ (v = .slice none 0 0 ↔ ss = []) ∧ Below (w.alloc (.cells #[.map (some b)] 38)).heap.size (w.alloc (.cells #[.map (some b)] 38)) w' := by
  have hbl := hown.lt
  have hseq : SeqGives Fence.wide 2 Yba.prog 23 #[.pointer (some ⟨w.heap.size, 0, none⟩)] encStr (fun ss => ss.Perm (strKeys D0)) (Maps.size D0) (w.alloc (.cells #[.map (some b)] 38)) :=
    AnyZ.keys_gives (ρ := Yba.keys14_ren) { Yba.keys14 with } Fence.wide _ trivial rfl (by omega) w.heap.size b nn D0 _ (by simp) (by simp) (by
      obtain ⟨es, clock, hb, Ft, hs, hD⟩ := hown
      exact ⟨es, clock, (Below.heap_alloc _ _ b hbl).trans hb, Ft, hs, hD⟩)
  exact AnyZ.sorted_in Yba.sorted13 Fence.wide 5 trivial trivial trivial trivial rfl (by omega) (Yba.sorts13 _) (enters_of Yba.func22 (by kernel_rfl) rfl) 23 #[.pointer (some ⟨w.heap.size, 0, none⟩)] trivial (enters_of Yba.func23 (by kernel_rfl) rfl) _ _ hmax hbytes _ hseq


namespace Ybulkcela
open Go.MapKept

theorem nodup_length {α : Type} : ∀ (l m : List α), l.Nodup → (∀ x ∈ l, x ∈ m) → l.length ≤ m.length := by
  classical
  intro l
  induction l with
  | nil => intro m _ _; simp
  | cons a l ih =>
    intro m hn hs
    obtain ⟨hna, hnl⟩ := List.nodup_cons.1 hn
    have ha : a ∈ m := hs a (by simp)
    have := ih (m.erase a) hnl fun x hx => (List.mem_erase_of_ne (show x ≠ a from fun e => hna (by rw [← e]; exact hx))).2 (hs x (by simp [hx]))
    rw [List.length_erase_of_mem ha] at this
    have hpos : 0 < m.length := List.length_pos_of_mem ha
    simp; omega

/-- How the elements are read here: as nothing at all. -/
def anyElem (_ : Value) : Option (DataW Unit × List MemPlace) := some (.nil, [])

theorem MapOf.owns {w : World} {r : Nat} {Vp : Value → Prop} (h : MapOf w r Name4 Vp) : ∃ D : DataW Unit, w.ownsMap Yba.prog 9 anyElem r 4 D ∧ Maps.size D ≤ 4 := by
  obtain ⟨es, clock, hb, hst, hx⟩ := h
  have hlen : es.size ≤ 4 := by
    have h1 := nodup_length (es.toList.map (·.key)) [.string ⟨#[97]⟩, .string ⟨#[98]⟩, .string ⟨#[100, 101, 118, 105, 99, 101]⟩, .string ⟨#[103, 101, 111]⟩] hst.2.2 fun k hk => by
      obtain ⟨x, hxm, rfl⟩ := List.mem_map.1 hk
      obtain ⟨s, e, _, hn, _⟩ := hx x hxm
      rw [e]
      rcases hn with rfl | rfl | rfl | rfl <;> simp
    simpa using h1
  have hF : WideElems.Fit Yba.prog 9 anyElem es clock := ⟨by unfold maxLen; omega, hst, fun x hxm => by
    obtain ⟨s, e, hs, _⟩ := hx x hxm
    obtain ⟨l, hl⟩ := key_ok hs
    exact ⟨_, WideElems.rd_mk (by rw [e]; exact hl) rfl⟩⟩
  refine ⟨_, ⟨es, clock, hb, hF, hlen, rfl⟩, ?_⟩
  show (List.foldr DataW.insert [] _).length ≤ 4
  rw [length_sorted]; simpa using hlen

theorem keys_calls (mb : Option Nat) (W : World) : Calls Yba.prog 14 #[.map mb] W fun e w' => e = .returned (.func (.func 23) #[] #[.pointer (some ⟨W.heap.size, 0, none⟩)]) ∧ w' = W.alloc (.cells #[.map mb] 38) :=
  callsIn_wide.1 (Yba.maps_Keys_14 mb W)

theorem sorted_calls {Vp : Value → Prop} (b : Nat) (w : World) (h : MapOf w b Name4 Vp) :
    Calls Yba.prog 13 #[.func (.func 23) #[] #[.pointer (some ⟨w.heap.size, 0, none⟩)]] (w.alloc (.cells #[.map (some b)] 38)) fun e w' => (∃ a l c, e = .returned (.slice a l c)) ∧ Below (w.heap.size + 1) (w.alloc (.cells #[.map (some b)] 38)) w' := by
  obtain ⟨D, hown, hsz⟩ := h.owns
  refine (callsIn_wide.1 (Yba.slices_Sorted_keys_13_14 b 4 D anyElem w hown (by unfold maxLen; omega) (by omega))).mono ?_
  rintro e w' ⟨v, ss, rfl, _, hrow, _, hb⟩
  refine ⟨?_, ?_⟩
  · rcases hrow.2 with ⟨rfl, _⟩ | ⟨g, cap, cur, rfl, _⟩
    · exact ⟨_, _, _, rfl⟩
    · exact ⟨_, _, _, rfl⟩
  · exact hb.mono (by simp)
end Ybulkcela
end Go.Proofs
