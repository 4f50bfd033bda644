/-
  'slices.Sorted(maps.Keys(m))' AT THIS DUMP (the guide's lay-iter.mjs; the layings in plain words: YbulkcelaGreatDoorShelf.lean), and at a map of at most one name (seat b4030aZD).
-/
import Derived.Test.YbulkcelaGreatDoorShelf
import Derived.Test.YbulkcelaGreatDoorNewK
namespace Go.Proofs
open Go.RowKit Go.Maps Go.Sort Go.Shelf
/-- slices.Sort's two contracts at this dump, at the fence that asks nothing. -/
theorem Ybaz.sorts29 (m : Nat) : AnyZ.SortsIn Ybaz.prog Ybaz.sorted29_ren Fence.wide m :=
  ⟨fun blk off cap ss W hH hblk hsz => callsIn_wide.2 (AnyM.slices_Sort_string Ybaz.sort50 blk off cap ss W hH hblk hsz),
   fun p cap W => callsIn_wide.2 (AnyM.slices_Sort_string_none Ybaz.sort50 p cap W)⟩

/-- **maps.Keys[map[string]map[string]bool,string,map[string]bool], at whatever map, the nil one too:** a function value over ONE NEW BLOCK, which holds the map. -/
theorem Ybaz.maps_Keys_30 (mb : Option Nat) (W : World) : CallsIn Fence.wide 5 Ybaz.prog 30 #[.map mb] W fun e w' => e = .returned (.func (.func 51) #[] #[.pointer (some ⟨W.heap.size, 0, none⟩)]) ∧ w' = W.alloc (.cells #[.map mb] 84) :=
  AnyZ.keys_in Ybaz.keys30 Fence.wide 5 trivial rfl mb W

set_option maxHeartbeats 1000000 in
/-- **slices.Sorted[string] AT WHAT maps.Keys[map[string]map[string]bool,string,map[string]bool] HANDED BACK FOR A MAP THAT IS NOT nil** ('w': the world AHEAD of maps.Keys' call): A NEW SLICE THAT HOLDS THE MAP's KEYS, SORTED; nil just where it has none; nothing that lay before has turned. -/
theorem Ybaz.slices_Sorted_keys_29_30 {H : Type} (b nn : Nat) (D0 : DataW H) (R : Value → Option (DataW H × List MemPlace)) (w : World) (hown : w.ownsMap Ybaz.prog 9 R b nn D0) (hmax : Maps.size D0 ≤ maxLen) (hbytes : Maps.size D0 * 16 ≤ 140737488355328) :
    CallsIn Fence.wide 5 Ybaz.prog 29 #[.func (.func 51) #[] #[.pointer (some ⟨w.heap.size, 0, none⟩)]] (w.alloc (.cells #[.map (some b)] 84)) fun e w' => ∃ (v : Value) (ss : List (List UInt8)), e = .returned v ∧ ss.Perm (strKeys D0) ∧
      w'.ownsRow (w.alloc (.cells #[.map (some b)] 84)).heap.size 9 1 v ss.length ((ss.mergeSort (fun x y => decide (x ≤ y))).map encStr) ∧ (v = .slice none 0 0 ↔ ss = []) ∧ Below (w.alloc (.cells #[.map (some b)] 84)).heap.size (w.alloc (.cells #[.map (some b)] 84)) w' := by
  have hbl := hown.lt
  have hseq : SeqGives Fence.wide 2 Ybaz.prog 51 #[.pointer (some ⟨w.heap.size, 0, none⟩)] encStr (fun ss => ss.Perm (strKeys D0)) (Maps.size D0) (w.alloc (.cells #[.map (some b)] 84)) :=
    AnyZ.keys_gives (ρ := Ybaz.keys30_ren) { Ybaz.keys30 with } Fence.wide _ trivial rfl (by omega) w.heap.size b nn D0 _ (by simp) (by simp) (by
      obtain ⟨es, clock, hb, Ft, hs, hD⟩ := hown
      exact ⟨es, clock, (Below.heap_alloc _ _ b hbl).trans hb, Ft, hs, hD⟩)
  exact AnyZ.sorted_in Ybaz.sorted29 Fence.wide 5 trivial trivial trivial trivial rfl (by omega) (Ybaz.sorts29 _) (enters_of Ybaz.func50 (by kernel_rfl) rfl) 51 #[.pointer (some ⟨w.heap.size, 0, none⟩)] trivial (enters_of Ybaz.func51 (by kernel_rfl) rfl) _ _ hmax hbytes _ hseq


namespace YbulkcelaGreatDoor
open Go.MapKept

theorem rg_list {H : Type} {P : Program} {k : TypeId} {R : Value → Option (DataW H × List MemPlace)} {f : Value → DataW H} : ∀ (es : List MapEntry) (l : Ents), es.map (fun x => (x.key, x.val)) = l.map (fun p => (Value.string p.1, p.2)) → (∀ p ∈ l, keyOf P k (.string p.1) = some (.string p.1.data.toList)) → (∀ p ∈ l, R p.2 = some (f p.2, [])) →
    es.map (WideElems.rg P k R) = l.map fun p => (Lit.string p.1.data.toList, f p.2)
  | [], [], _, _, _ => rfl
  | [], p :: l, h, _, _ => by simp at h
  | x :: es, [], h, _, _ => by simp at h
  | x :: es, p :: l, h, hk, hR => by
    simp only [List.map_cons, List.cons.injEq, Prod.mk.injEq] at h
    have ih := rg_list es l h.2 (fun q hq => hk q (List.mem_cons_of_mem _ hq)) (fun q hq => hR q (List.mem_cons_of_mem _ hq))
    rw [List.map_cons, List.map_cons, ih]
    congr 1
    unfold WideElems.rg WideElems.rd
    rw [h.1.1, h.1.2, hk p (List.mem_cons_self ..), hR p (List.mem_cons_self ..)]
    rfl

theorem MapL.owns {H : Type} {w : World} {r : Nat} {l : Ents} (h : MapL w r l) (R : Value → Option (DataW H × List MemPlace)) (f : Value → DataW H) (hR : ∀ p ∈ l, R p.2 = some (f p.2, [])) (n : Nat) (hn : l.length ≤ n) (hm : l.length ≤ maxLen) :
    w.ownsMap Ybaz.prog 9 R r n (.map ((l.map fun p => (Lit.string p.1.data.toList, f p.2)).foldr DataW.insert [])) := by
  obtain ⟨es, clock, hb, hst, he, hl⟩ := h
  have hs : es.size = l.length := by
    have := congrArg List.length he
    simpa using this
  have hk : ∀ p ∈ l, keyOf Ybaz.prog 9 (.string p.1) = some (.string p.1.data.toList) := fun p hp => WideMaps.keyOf_string_mk Ybaz.underlying9 (hl p hp)
  have hmem : ∀ x ∈ es.toList, ∃ p ∈ l, x.key = .string p.1 ∧ x.val = p.2 := fun x hx => by
    obtain ⟨s, e1, e2⟩ := ents_mem he hx
    exact ⟨_, e2, e1, rfl⟩
  refine ⟨es, clock, hb, ⟨by rw [hs]; exact hm, hst, fun x hx => ?_⟩, by rw [hs]; exact hn, ?_⟩
  · obtain ⟨p, hp, e1, e2⟩ := hmem x hx
    refine ⟨(Lit.string p.1.data.toList, f p.2), ?_⟩
    unfold WideElems.rd
    rw [e1, e2, hk p hp, hR p hp]
    simp only [Option.bind_some, Option.map_some]
  · rw [rg_list es.toList l he hk hR]

theorem MapL.of_owns_nil {H : Type} {w : World} {r n : Nat} {R : Value → Option (DataW H × List MemPlace)} (h : w.ownsMap Ybaz.prog 9 R r n (.map [])) : MapL w r [] := by
  obtain ⟨es, clock, hb, hF, _, hD⟩ := h
  injection hD with hD
  have hlen := congrArg List.length hD
  rw [length_sorted] at hlen
  simp at hlen
  have he : es = #[] := by
    have : es.size = 0 := hlen.symm
    simpa using this
  subst he
  exact ⟨#[], clock, hb, stamped_empty _, rfl, by simp⟩

/-- How the elements are read here: as nothing at all. -/
def anyElem (_ : Value) : Option (DataW Unit × List MemPlace) := some (.nil, [])

theorem keysSorted : KeysSorted where
  keys mb W := callsIn_wide.1 (Ybaz.maps_Keys_30 mb W)
  sorted r w l hM hl := by
    have hlen : l.length ≤ 1 := by
      rcases hl with rfl | ⟨v, rfl⟩ <;> simp
    have hown := hM.owns (H := Unit) anyElem (fun _ => .nil) (fun _ _ => rfl) 1 hlen (by unfold maxLen; omega)
    have hsz : Maps.size (DataW.map ((l.map fun p => (Lit.string p.1.data.toList, (DataW.nil : DataW Unit))).foldr DataW.insert [])) ≤ 1 := by
      show (List.foldr DataW.insert [] _).length ≤ 1
      rw [length_sorted]; simpa using hlen
    refine (callsIn_wide.1 (Ybaz.slices_Sorted_keys_29_30 r 1 _ anyElem w hown (by unfold maxLen; omega) (by omega))).mono ?_
    rintro e w' ⟨v, ss, rfl, hp, hrow, _, hb⟩
    rw [show (w.alloc (.cells #[.map (some r)] 84)).heap.size = w.heap.size + 1 by simp] at hrow hb
    refine ⟨v, rfl, ?_, hb⟩
    rcases hl with rfl | ⟨u, rfl⟩
    · have hss : ss = [] := by
        have := hp.length_eq
        simpa [strKeys] using this
      subst hss
      simpa using hrow
    · have hss : ss = [aS.data.toList] := by
        have h1 : ss.Perm [aS.data.toList] := hp
        exact List.perm_singleton.1 h1
      subst hss
      have e1 : ([aS.data.toList].mergeSort (fun x y => decide (x ≤ y))).map encStr = [.string aS] := by
        rw [List.mergeSort_singleton]; rfl
      rw [e1] at hrow
      exact hrow
end YbulkcelaGreatDoor
end Go.Proofs
