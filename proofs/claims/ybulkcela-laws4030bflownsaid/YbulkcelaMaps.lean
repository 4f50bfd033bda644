/-
  MAPS KEYED BY STRINGS, SAID WEAKLY: what every key and every element is like; no size, no order (seat b4030a).
-/
import Derived.Test.YbulkcelaArg
import Derived.Maps.Range
namespace Go.Proofs.Ybulkcela
open Go.RowKit Go.MapKept
open Go.ChangeMaps (setBlock heap_setBlock_same heap_setBlock_other)
open Go.Maps (Keyed)

theorem keyed9 : Keyed Yba.prog 9 := Maps.string_keyed Yba.underlying9

/-- Block r is a map; each of its keys is a string such as Kp says, each element such as Vp says. -/
def MapOf (w : World) (r : Nat) (Kp : ByteArray → Prop) (Vp : Value → Prop) : Prop :=
  ∃ es clock, w.heap[r]? = some (.map es clock) ∧ Stamped es clock ∧ ∀ x ∈ es.toList, ∃ s : ByteArray, x.key = .string s ∧ s.size ≤ maxLen ∧ Kp s ∧ Vp x.val

theorem MapOf.lt {w : World} {r : Nat} {Kp : ByteArray → Prop} {Vp : Value → Prop} (h : MapOf w r Kp Vp) : r < w.heap.size := by
  obtain ⟨es, clock, hb, _⟩ := h
  exact (Array.getElem?_eq_some_iff.1 hb).1

theorem MapOf.made (w : World) (Kp : ByteArray → Prop) (Vp : Value → Prop) : MapOf (w.alloc (.map #[] 0)) w.heap.size Kp Vp :=
  ⟨#[], 0, (MapKept.heap_alloc w _).1, stamped_empty 0, by simp⟩

theorem MapOf.block {w w' : World} {r : Nat} {Kp : ByteArray → Prop} {Vp Vp' : Value → Prop} (h : MapOf w r Kp Vp) (hb : w'.heap[r]? = w.heap[r]?) (hv : ∀ v, Vp v → Vp' v) : MapOf w' r Kp Vp' := by
  obtain ⟨es, clock, h1, h2, h3⟩ := h
  refine ⟨es, clock, hb.trans h1, h2, fun x hx => ?_⟩
  obtain ⟨s, e1, e2, e3, e4⟩ := h3 x hx
  exact ⟨s, e1, e2, e3, hv _ e4⟩

theorem key_ok {s : ByteArray} (hs : s.size ≤ maxLen) : ∃ l, keyOf Yba.prog 9 (.string s) = some l := ⟨_, WideMaps.keyOf_string_mk Yba.underlying9 hs⟩

/-- 'm[k]'. -/
theorem MapOf.look {t e : TypeId} {w : World} {r : Nat} {Kp : ByteArray → Prop} {Vp : Value → Prop} (h : MapOf w r Kp Vp) (ht : Yba.prog.underlying t = some (.map 9 e)) {z : Value} (hz : (zeroValue e).run Yba.prog w = .ok z w) {s : ByteArray} (hs : s.size ≤ maxLen) :
    ∃ v, (Instr.lookup t (.map (some r)) (.string s) false).run Yba.prog w = .ok v w ∧ (v = z ∨ Vp v) := by
  obtain ⟨es, clock, hb, _, hx⟩ := h
  obtain ⟨l, hl⟩ := key_ok hs
  have hkeys : ∀ x ∈ es.toList, ∃ l, keyOf Yba.prog 9 x.key = some l := fun x hxm => by
    obtain ⟨s', e1, e2, _⟩ := hx x hxm
    rw [e1]; exact key_ok e2
  rcases keyed9.find w hl es.toList hkeys with ⟨h1, h2⟩ | ⟨j, e0, h1, h2, h3⟩
  · exact ⟨z, by simp [Instr.lookup, run_underlying ht, MapKept.run_getObj_map hb, keyed9.check w _ hl, h1, hz, Result.andThen], Or.inl rfl⟩
  · obtain ⟨_, _, _, _, hv⟩ := hx e0 (List.mem_of_getElem? h2)
    exact ⟨e0.val, by simp [Instr.lookup, run_underlying ht, MapKept.run_getObj_map hb, keyed9.check w _ hl, h1, Result.andThen], Or.inr hv⟩

/-- 'm[k] = v': SOME world in which the map is such as before; nothing else has turned. -/
theorem MapOf.store {t e : TypeId} {w : World} {r : Nat} {Kp : ByteArray → Prop} {Vp : Value → Prop} (h : MapOf w r Kp Vp) (ht : Yba.prog.underlying t = some (.map 9 e)) {s : ByteArray} (hs : s.size ≤ maxLen) (hk : Kp s) {v : Value} (hv : Vp v) :
    ∃ w', (Instr.mapUpdate t (.map (some r)) (.string s) v).run Yba.prog w = .ok () w' ∧ MapOf w' r Kp Vp ∧ w.grownBy w' (some r) ∧ w'.heap.size = w.heap.size := by
  obtain ⟨es, clock, hb, hst, hx⟩ := h
  obtain ⟨l, hl⟩ := key_ok hs
  have hkeys : ∀ x ∈ es.toList, ∃ l, keyOf Yba.prog 9 x.key = some l := fun x hxm => by
    obtain ⟨s', e1, e2, _⟩ := hx x hxm
    rw [e1]; exact key_ok e2
  rcases keyed9.find w hl es.toList hkeys with ⟨h1, h2⟩ | ⟨j, e0, h1, h2, h3⟩
  · refine ⟨setBlock w r (.map (es.push ⟨.string s, v, clock⟩) (clock + 1)), ?_, ⟨_, _, heap_setBlock_same hb _, stamped_push hst h2, ?_⟩, ⟨rfl, rfl, rfl, by simp [setBlock], fun i _ hi => heap_setBlock_other hb _ (fun e => hi (by rw [e]))⟩, by simp [setBlock]⟩
    · simp [Instr.mapUpdate, run_underlying ht, MapKept.run_getObj_map hb, keyed9.check w false hl, h1, MapKept.run_setObj_map _ hb, Result.andThen, setBlock]
    · intro x hxm
      simp only [Array.toList_push, List.mem_append, List.mem_singleton] at hxm
      rcases hxm with hxm | rfl
      · exact hx x hxm
      · exact ⟨s, rfl, hs, hk, hv⟩
  · have hj : es[j]? = some e0 := by simpa using h2
    have hkeyf : ∀ e', es[j]? = some e' → ({ e' with key := .string s, val := v } : MapEntry).key = e'.key := fun e' he' => by rw [hj] at he'; cases he'; exact h3.symm
    have hlist : (es.modify j (fun e' => { e' with key := .string s, val := v })).toList = es.toList.set j { e0 with key := .string s, val := v } := by rw [Array.toList_modify, Go.ChangeMaps.modify_eq_set _ _ _ _ h2]
    refine ⟨setBlock w r (.map (es.modify j (fun e' => { e' with key := .string s, val := v })) clock), ?_, ⟨_, _, heap_setBlock_same hb _, stamped_modify hst _ _ (fun _ _ => rfl) (fun e' _ he' => hkeyf e' he'), ?_⟩, ⟨rfl, rfl, rfl, by simp [setBlock], fun i _ hi => heap_setBlock_other hb _ (fun e => hi (by rw [e]))⟩, by simp [setBlock]⟩
    · simp [Instr.mapUpdate, run_underlying ht, MapKept.run_getObj_map hb, keyed9.check w false hl, h1, hj, h3, keyed9.stays w hl, MapKept.run_setObj_map _ hb, Result.andThen, setBlock]
    · intro x hxm
      rw [hlist] at hxm
      rcases List.mem_or_eq_of_mem_set hxm with hxm | rfl
      · exact hx x hxm
      · exact ⟨s, rfl, hs, hk, hv⟩

/-- 'for k, v := range m' under way: block r is an iterator over the map in block b, to which nothing has been added; cnt: how many entries are still to come. -/
def Iter (w : World) (b r : Nat) (Kp : ByteArray → Prop) (Vp : Value → Prop) (cnt : Nat) : Prop :=
  ∃ es clock since seen c0, w.heap[b]? = some (.map es clock) ∧ Stamped es clock ∧ (∀ x ∈ es.toList, ∃ s : ByteArray, x.key = .string s ∧ s.size ≤ maxLen ∧ Kp s ∧ Vp x.val) ∧
    w.heap[r]? = some (.mapIter (some b) since seen c0) ∧ (∀ x ∈ es.toList, x.born < since) ∧ since ≤ c0 ∧ since ≤ clock ∧ (leftOf es seen).size = cnt

theorem Iter.block {w w' : World} {b r : Nat} {Kp : ByteArray → Prop} {Vp Vp' : Value → Prop} {cnt : Nat} (h : Iter w b r Kp Vp cnt) (hb : w'.heap[b]? = w.heap[b]?) (hr : w'.heap[r]? = w.heap[r]?) (hv : ∀ v, Vp v → Vp' v) : Iter w' b r Kp Vp' cnt := by
  obtain ⟨es, clock, since, seen, c0, h1, h2, h3, h4, h5⟩ := h
  refine ⟨es, clock, since, seen, c0, hb.trans h1, h2, fun x hx => ?_, hr.trans h4, h5⟩
  obtain ⟨s, e1, e2, e3, e4⟩ := h3 x hx
  exact ⟨s, e1, e2, e3, hv _ e4⟩

theorem Iter.lt {w : World} {b r : Nat} {Kp : ByteArray → Prop} {Vp : Value → Prop} {cnt : Nat} (h : Iter w b r Kp Vp cnt) : b < w.heap.size ∧ r < w.heap.size := by
  obtain ⟨es, clock, since, seen, c0, h1, h2, h3, h4, h5⟩ := h
  exact ⟨(Array.getElem?_eq_some_iff.1 h1).1, (Array.getElem?_eq_some_iff.1 h4).1⟩

/-- 'range m'. -/
theorem MapOf.range {t e : TypeId} {w : World} {b : Nat} {Kp : ByteArray → Prop} {Vp : Value → Prop} (h : MapOf w b Kp Vp) (ht : Yba.prog.underlying t = some (.map 9 e)) :
    ∃ w' cnt, (Instr.range t (.map (some b))).run Yba.prog w = .ok (.pointer (some ⟨w.heap.size, 0, none⟩)) w' ∧ Iter w' b w.heap.size Kp Vp cnt ∧ w.grownBy w' none ∧ w'.heap.size = w.heap.size + 1 := by
  have hlt := h.lt
  obtain ⟨es, clock, hb, hst, hx⟩ := h
  exact ⟨_, _, run_range_map w t 9 e b es clock ht hb, ⟨es, clock, clock, #[], clock, ((MapKept.heap_alloc w _).2 b hlt).trans hb, hst, hx, (MapKept.heap_alloc w _).1, hst.1, Nat.le_refl _, Nat.le_refl _, rfl⟩, World.grownBy_alloc w _ none, by simp⟩

/-- The step. -/
theorem Iter.next {w : World} {b r : Nat} {Kp : ByteArray → Prop} {Vp : Value → Prop} {cnt : Nat} (h : Iter w b r Kp Vp cnt) (ty : TypeId) :
    ((Instr.next (.pointer (some ⟨r, 0, none⟩)) false ty).run Yba.prog w = .ok (.tuple #[.bool false]) w) ∨
    ∃ (s : ByteArray) (v : Value) (w' : World) (cnt' : Nat), s.size ≤ maxLen ∧ Kp s ∧ Vp v ∧ (Instr.next (.pointer (some ⟨r, 0, none⟩)) false ty).run Yba.prog w = .ok (.tuple #[.bool true, .string s, v]) w' ∧
      Iter w' b r Kp Vp cnt' ∧ cnt' < cnt ∧ w.grownBy w' (some r) ∧ w'.heap.size = w.heap.size ∧ (Instr.entry (.pointer (some ⟨r, 0, none⟩))).run Yba.prog w' = .ok (.tuple #[.string s, v]) w' := by
  obtain ⟨es, clock, since, seen, c0, hb, hst, hx, hr, hold, hsc, hsk, hcnt⟩ := h
  have hne : r ≠ b := by
    intro e
    rw [e, hb] at hr
    cases hr
  rcases run_next_at (P := Yba.prog) w ty r b since c0 seen es clock hr hb hold hsc with ⟨h0, hrun⟩ | ⟨e, he, w1, hal, hrun⟩
  · exact Or.inl hrun
  · right
    have hmem : e ∈ es.toList ∧ seen.contains e.born = false := by
      unfold leftOf at he
      simp at he ⊢
      exact he
    obtain ⟨s, e1, e2, e3, e4⟩ := hx e hmem.1
    have hb1 : w1.heap = w.heap := by rcases hal with rfl | rfl <;> rfl
    have hr1 : w1.heap[r]? = some (.mapIter (some b) since seen c0) := by rw [hb1]; exact hr
    have hlt : r < w1.heap.size := (Array.getElem?_eq_some_iff.1 hr1).1
    have hrn : (setBlock w1 r (.mapIter (some b) since (seen.push e.born) clock)).heap[r]? = some (.mapIter (some b) since (seen.push e.born) clock) := by
      simp [setBlock, hlt]
    have hro : ∀ i, i ≠ r → (setBlock w1 r (.mapIter (some b) since (seen.push e.born) clock)).heap[i]? = w1.heap[i]? := fun i hi => by
      simp [setBlock, Ne.symm hi]
    have hbn : (setBlock w1 r (.mapIter (some b) since (seen.push e.born) clock)).heap[b]? = some (.map es clock) := by
      rw [hro b (Ne.symm hne), hb1]; exact hb
    refine ⟨s, e.val, _, (leftOf es (seen.push e.born)).size, e2, e3, e4, by rw [hrun, e1], ⟨es, clock, since, seen.push e.born, clock, hbn, hst, hx, hrn, hold, hsk, hsk, rfl⟩, ?_, ?_, ?_, ?_⟩
    · rw [← hcnt]
      exact left_shrinks es seen e he
    · refine ⟨?_, ?_, ?_, ?_, ?_⟩
      · rcases hal with rfl | rfl <;> rfl
      · rcases hal with rfl | rfl <;> rfl
      · rcases hal with rfl | rfl <;> rfl
      · simp [setBlock, hb1]
      · intro i _ hi
        rw [hro i (fun e => hi (by rw [e])), hb1]
    · simp [setBlock, hb1]
    · rw [← e1]
      exact run_entry_at _ r b since seen es clock e hrn hbn hmem.1 hst.2.1
end Go.Proofs.Ybulkcela
