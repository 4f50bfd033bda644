/-
  MAPS KEYED BY STRINGS, said whole: the list of their entries (seat b4030aZD).
-/
import Derived.Test.YbulkcelaGreatDoorKit
import Derived.Maps.Range
import Derived.Lib.SmallJoins
namespace Go.Proofs.YbulkcelaGreatDoor
open Go.RowKit Go.MapKept Go.Sort
open Go.ChangeMaps (setBlock heap_setBlock_same heap_setBlock_other)
open Go.Maps (Keyed)

theorem keyed9 : Keyed Ybaz.prog 9 := Maps.string_keyed Ybaz.underlying9

abbrev Ents := List (ByteArray × Value)

/-- Block r is a map with just these entries. -/
def MapL (w : World) (r : Nat) (l : Ents) : Prop :=
  ∃ es clock, w.heap[r]? = some (.map es clock) ∧ Stamped es clock ∧ es.toList.map (fun x => (x.key, x.val)) = l.map (fun p => (Value.string p.1, p.2)) ∧ ∀ p ∈ l, p.1.size ≤ maxLen

theorem MapL.lt {w : World} {r : Nat} {l : Ents} (h : MapL w r l) : r < w.heap.size := by
  obtain ⟨es, clock, hb, _⟩ := h
  exact (Array.getElem?_eq_some_iff.1 hb).1

theorem MapL.made (w : World) : MapL (w.alloc (.map #[] 0)) w.heap.size [] :=
  ⟨#[], 0, (MapKept.heap_alloc w _).1, stamped_empty 0, rfl, by simp⟩

theorem MapL.block {w w' : World} {r : Nat} {l : Ents} (h : MapL w r l) (hb : w'.heap[r]? = w.heap[r]?) : MapL w' r l := by
  obtain ⟨es, clock, h1, h2⟩ := h
  exact ⟨es, clock, hb.trans h1, h2⟩

theorem MapL.below {w w' : World} {r B : Nat} {l : Ents} (h : MapL w r l) (hb : Below B w w') (hr : r < B) : MapL w' r l := h.block (hb.block r hr)

theorem key_ok {s : ByteArray} (hs : s.size ≤ maxLen) : ∃ l, keyOf Ybaz.prog 9 (.string s) = some l := ⟨_, WideMaps.keyOf_string_mk Ybaz.underlying9 hs⟩

theorem ents_keys {es : Array MapEntry} {l : Ents} (he : es.toList.map (fun x => (x.key, x.val)) = l.map (fun p => (Value.string p.1, p.2))) (hl : ∀ p ∈ l, p.1.size ≤ maxLen) : ∀ x ∈ es.toList, ∃ k, keyOf Ybaz.prog 9 x.key = some k := fun x hx => by
  have : (x.key, x.val) ∈ l.map (fun p => (Value.string p.1, p.2)) := by rw [← he]; exact List.mem_map.2 ⟨x, hx, rfl⟩
  obtain ⟨p, hp, e⟩ := List.mem_map.1 this
  injection e with e1 e2
  rw [← e1]; exact key_ok (hl p hp)

theorem ents_mem {es : Array MapEntry} {l : Ents} (he : es.toList.map (fun x => (x.key, x.val)) = l.map (fun p => (Value.string p.1, p.2))) {x : MapEntry} (hx : x ∈ es.toList) : ∃ s, x.key = .string s ∧ (s, x.val) ∈ l := by
  have : (x.key, x.val) ∈ l.map (fun p => (Value.string p.1, p.2)) := by rw [← he]; exact List.mem_map.2 ⟨x, hx, rfl⟩
  obtain ⟨p, hp, e⟩ := List.mem_map.1 this
  injection e with e1 e2
  refine ⟨p.1, e1.symm, ?_⟩
  rw [← e2]; exact hp

/-- The keys are all different. -/
theorem MapL.nodup {w : World} {r : Nat} {l : Ents} (h : MapL w r l) : (l.map (·.1)).Nodup := by
  obtain ⟨es, clock, hb, hst, he, hl⟩ := h
  have h3 := hst.2.2
  have e : es.toList.map (·.key) = (l.map (·.1)).map Value.string := by
    have := congrArg (List.map Prod.fst) he
    simpa [List.map_map, Function.comp_def] using this
  rw [e] at h3
  exact (List.pairwise_map.1 h3).imp fun h e => h (by rw [e])

theorem nodup_val {l : Ents} (h : (l.map (·.1)).Nodup) {s : ByteArray} {u v : Value} (h1 : (s, u) ∈ l) (h2 : (s, v) ∈ l) : u = v := by
  induction l with
  | nil => cases h1
  | cons a t ih =>
    simp only [List.map_cons, List.nodup_cons] at h
    rcases List.mem_cons.1 h1 with e1 | h1
    · rcases List.mem_cons.1 h2 with e2 | h2
      · rw [← e1] at e2; injection e2 with _ e; exact e.symm
      · exact absurd (List.mem_map.2 ⟨_, h2, by rw [← e1]⟩) h.1
    · rcases List.mem_cons.1 h2 with e2 | h2
      · exact absurd (List.mem_map.2 ⟨_, h1, by rw [← e2]⟩) h.1
      · exact ih h.2 h1 h2

/-- 'm[k]', not there. -/
theorem MapL.look_none {t e : TypeId} {w : World} {r : Nat} {l : Ents} (h : MapL w r l) (ht : Ybaz.prog.underlying t = some (.map 9 e)) {z : Value} (hz : (zeroValue e).run Ybaz.prog w = .ok z w) {s : ByteArray} (hs : s.size ≤ maxLen) (hn : ∀ v, (s, v) ∉ l) :
    (Instr.lookup t (.map (some r)) (.string s) false).run Ybaz.prog w = .ok z w ∧ (Instr.lookup t (.map (some r)) (.string s) true).run Ybaz.prog w = .ok (.tuple #[z, .bool false]) w := by
  obtain ⟨es, clock, hb, _, he, hl⟩ := h
  obtain ⟨k, hk⟩ := key_ok hs
  rcases keyed9.find w hk es.toList (ents_keys he hl) with ⟨h1, h2⟩ | ⟨j, e0, h1, h2, h3⟩
  · constructor <;> simp [Instr.lookup, run_underlying ht, MapKept.run_getObj_map hb, keyed9.check w _ hk, h1, hz, Result.andThen]
  · obtain ⟨s', e1, e2⟩ := ents_mem he (List.mem_of_getElem? h2)
    rw [h3] at e1
    injection e1 with e1
    subst e1
    exact absurd e2 (hn _)

/-- 'm[k]', there. -/
theorem MapL.look_some {t e : TypeId} {w : World} {r : Nat} {l : Ents} (h : MapL w r l) (ht : Ybaz.prog.underlying t = some (.map 9 e)) {s : ByteArray} {v : Value} (hm : (s, v) ∈ l) :
    (Instr.lookup t (.map (some r)) (.string s) false).run Ybaz.prog w = .ok v w ∧ (Instr.lookup t (.map (some r)) (.string s) true).run Ybaz.prog w = .ok (.tuple #[v, .bool true]) w := by
  have hnd := h.nodup
  obtain ⟨es, clock, hb, _, he, hl⟩ := h
  obtain ⟨k, hk⟩ := key_ok (hl _ hm)
  rcases keyed9.find w hk es.toList (ents_keys he hl) with ⟨h1, h2⟩ | ⟨j, e0, h1, h2, h3⟩
  · exfalso
    have : (Value.string s, v) ∈ es.toList.map (fun x => (x.key, x.val)) := by rw [he]; exact List.mem_map.2 ⟨_, hm, rfl⟩
    obtain ⟨x, hx, e1⟩ := List.mem_map.1 this
    injection e1 with e1 _
    exact h2 x hx e1
  · obtain ⟨s', e1, e2⟩ := ents_mem he (List.mem_of_getElem? h2)
    rw [h3] at e1
    injection e1 with e1
    subst e1
    have hv := nodup_val hnd e2 hm
    subst hv
    constructor <;> simp [Instr.lookup, run_underlying ht, MapKept.run_getObj_map hb, keyed9.check w _ hk, h1, Result.andThen]

/-- 'm[k] = v', a new key. -/
theorem MapL.store_new {t e : TypeId} {w : World} {r : Nat} {l : Ents} (h : MapL w r l) (ht : Ybaz.prog.underlying t = some (.map 9 e)) {s : ByteArray} (hs : s.size ≤ maxLen) (hn : ∀ v, (s, v) ∉ l) (v : Value) :
    ∃ w', (Instr.mapUpdate t (.map (some r)) (.string s) v).run Ybaz.prog w = .ok () w' ∧ MapL w' r (l ++ [(s, v)]) ∧ w.grownBy w' (some r) ∧ w'.heap.size = w.heap.size := by
  obtain ⟨es, clock, hb, hst, he, hl⟩ := h
  obtain ⟨k, hk⟩ := key_ok hs
  rcases keyed9.find w hk es.toList (ents_keys he hl) with ⟨h1, h2⟩ | ⟨j, e0, h1, h2, h3⟩
  · refine ⟨setBlock w r (.map (es.push ⟨.string s, v, clock⟩) (clock + 1)), ?_, ⟨_, _, heap_setBlock_same hb _, stamped_push hst h2, ?_, ?_⟩, ⟨rfl, rfl, rfl, by simp [setBlock], fun i _ hi => heap_setBlock_other hb _ (fun e => hi (by rw [e]))⟩, by simp [setBlock]⟩
    · simp [Instr.mapUpdate, run_underlying ht, MapKept.run_getObj_map hb, keyed9.check w false hk, h1, MapKept.run_setObj_map _ hb, Result.andThen, setBlock]
    · simp only [Array.toList_push, List.map_append, List.map_cons, List.map_nil]
      rw [he]
    · intro p hp
      rcases List.mem_append.1 hp with hp | hp
      · exact hl p hp
      · simp at hp; subst hp; exact hs
  · obtain ⟨s', e1, e2⟩ := ents_mem he (List.mem_of_getElem? h2)
    rw [h3] at e1
    injection e1 with e1
    subst e1
    exact absurd e2 (hn _)

/-- 'm[k] = v', where m[k] is v already. -/
theorem MapL.store_same {t e : TypeId} {w : World} {r : Nat} {l : Ents} (h : MapL w r l) (ht : Ybaz.prog.underlying t = some (.map 9 e)) {s : ByteArray} {v : Value} (hm : (s, v) ∈ l) :
    ∃ w', (Instr.mapUpdate t (.map (some r)) (.string s) v).run Ybaz.prog w = .ok () w' ∧ MapL w' r l ∧ w.grownBy w' (some r) ∧ w'.heap.size = w.heap.size := by
  have hnd := h.nodup
  obtain ⟨es, clock, hb, hst, he, hl⟩ := h
  obtain ⟨k, hk⟩ := key_ok (hl _ hm)
  rcases keyed9.find w hk es.toList (ents_keys he hl) with ⟨h1, h2⟩ | ⟨j, e0, h1, h2, h3⟩
  · exfalso
    have : (Value.string s, v) ∈ es.toList.map (fun x => (x.key, x.val)) := by rw [he]; exact List.mem_map.2 ⟨_, hm, rfl⟩
    obtain ⟨x, hx, e1⟩ := List.mem_map.1 this
    injection e1 with e1 _
    exact h2 x hx e1
  · obtain ⟨s', e1, e2⟩ := ents_mem he (List.mem_of_getElem? h2)
    rw [h3] at e1
    injection e1 with e1
    subst e1
    have hv := nodup_val hnd e2 hm
    have hj : es[j]? = some e0 := by simpa using h2
    have hkeyf : ∀ e', es[j]? = some e' → ({ e' with key := .string s, val := v } : MapEntry).key = e'.key := fun e' he' => by rw [hj] at he'; cases he'; exact h3.symm
    have hlist : (es.modify j (fun e' => { e' with key := .string s, val := v })).toList = es.toList.set j { e0 with key := .string s, val := v } := by rw [Array.toList_modify, Go.ChangeMaps.modify_eq_set _ _ _ _ h2]
    refine ⟨setBlock w r (.map (es.modify j (fun e' => { e' with key := .string s, val := v })) clock), ?_, ⟨_, _, heap_setBlock_same hb _, stamped_modify hst _ _ (fun _ _ => rfl) (fun e' _ he' => hkeyf e' he'), ?_, hl⟩, ⟨rfl, rfl, rfl, by simp [setBlock], fun i _ hi => heap_setBlock_other hb _ (fun e => hi (by rw [e]))⟩, by simp [setBlock]⟩
    · simp [Instr.mapUpdate, run_underlying ht, MapKept.run_getObj_map hb, keyed9.check w false hk, h1, hj, h3, keyed9.stays w hk, MapKept.run_setObj_map _ hb, Result.andThen, setBlock]
    · rw [hlist]
      have e0' : ({ e0 with key := .string s, val := v } : MapEntry) = e0 := by
        cases e0; simp at h3 hv; subst h3 hv; rfl
      have hset : es.toList.set j e0 = es.toList := by
        apply List.ext_getElem?
        intro i
        rw [List.getElem?_set]
        by_cases h : j = i
        · subst h
          rw [if_pos rfl, if_pos (List.getElem?_eq_some_iff.1 h2).1, h2]
        · rw [if_neg h]
      rw [e0', hset]
      exact he

theorem MapL.len {t e ty : TypeId} {w : World} {r : Nat} {l : Ents} (h : MapL w r l) (ht : Ybaz.prog.underlying t = some (.map 9 e)) : (Builtin.len_ #[t] ty #[.map (some r)]).run Ybaz.prog w = .ok (.int .i64 l.length) w := by
  obtain ⟨es, clock, hb, _, he, _⟩ := h
  have hs : es.size = l.length := by
    have := congrArg List.length he
    simpa using this
  simp [Builtin.len_, run_underlying ht, MapKept.run_getObj_map hb, goInt, hs]

/-- 'for k, v := range m' over a map of one entry. -/
theorem MapL.once {t e ty : TypeId} {w : World} {b : Nat} {s : ByteArray} {v : Value} (h : MapL w b [(s, v)]) (ht : Ybaz.prog.underlying t = some (.map 9 e)) :
    ∃ w1 w2, (Instr.range t (.map (some b))).run Ybaz.prog w = .ok (.pointer (some ⟨w.heap.size, 0, none⟩)) w1 ∧
      (Instr.next (.pointer (some ⟨w.heap.size, 0, none⟩)) false ty).run Ybaz.prog w1 = .ok (.tuple #[.bool true, .string s, v]) w2 ∧
      (Instr.entry (.pointer (some ⟨w.heap.size, 0, none⟩))).run Ybaz.prog w2 = .ok (.tuple #[.string s, v]) w2 ∧
      Below w.heap.size w w2 ∧ w2.heap.size = w.heap.size + 1 ∧ (∀ c t f, w2.heap[w.heap.size]? ≠ some (.cells c t f)) ∧
      (∀ w3, w3.heap[b]? = w2.heap[b]? → w3.heap[w.heap.size]? = w2.heap[w.heap.size]? → (Instr.next (.pointer (some ⟨w.heap.size, 0, none⟩)) false ty).run Ybaz.prog w3 = .ok (.tuple #[.bool false]) w3) := by
  have hlt := h.lt
  obtain ⟨es, clock, hb, hst, he, hl⟩ := h
  obtain ⟨x, hx⟩ : ∃ x, es.toList = [x] := by
    have : es.toList.length = 1 := by have := congrArg List.length he; simpa using this
    exact List.length_eq_one_iff.1 this
  have hk : x.key = .string s ∧ x.val = v := by
    rw [hx] at he
    simp at he
    exact he
  have hr := run_range_map (P := Ybaz.prog) w t 9 e b es clock ht hb
  have hb1 : (w.alloc (.mapIter (some b) clock #[] clock)).heap[b]? = some (.map es clock) := ((MapKept.heap_alloc w _).2 b hlt).trans hb
  have hr1 : (w.alloc (.mapIter (some b) clock #[] clock)).heap[w.heap.size]? = some (.mapIter (some b) clock #[] clock) := (MapKept.heap_alloc w _).1
  have hxe : ∀ y ∈ es.toList, y = x := fun y hy => by rw [hx] at hy; simpa using hy
  rcases run_next_at (P := Ybaz.prog) _ ty w.heap.size b clock clock #[] es clock hr1 hb1 hst.1 (Nat.le_refl _) with ⟨h0, hrun⟩ | ⟨y, hy, w1, hal, hrun⟩
  · exfalso
    have : leftOf es #[] = es := by unfold leftOf; simp
    rw [this] at h0
    have : es.toList.length = 1 := by rw [hx]; rfl
    simp at this
    omega
  · have hym : y ∈ es.toList := by unfold leftOf at hy; simp at hy ⊢; exact hy
    have hyx := hxe y hym
    subst hyx
    have hh1 : w1.heap = (w.alloc (.mapIter (some b) clock #[] clock)).heap := by rcases hal with rfl | rfl <;> rfl
    have hwlt : w.heap.size < w1.heap.size := by rw [hh1]; simp
    have hne : w.heap.size ≠ b := by omega
    have hbn : (setBlock w1 w.heap.size (.mapIter (some b) clock (#[].push y.born) clock)).heap[b]? = some (.map es clock) := by
      simp only [setBlock]
      rw [Array.getElem?_setIfInBounds, if_neg hne, hh1]; exact hb1
    have hrn : (setBlock w1 w.heap.size (.mapIter (some b) clock (#[].push y.born) clock)).heap[w.heap.size]? = some (.mapIter (some b) clock (#[].push y.born) clock) := by
      simp only [setBlock]
      rw [Array.getElem?_setIfInBounds, if_pos rfl, if_pos hwlt]
    refine ⟨_, _, hr, by rw [hrun, hk.1, hk.2], ?_, ?_, by simp [setBlock, hh1], fun c t f hc => (by rw [hrn] at hc; cases hc), fun w3 k1 k2 => ?_⟩
    · have := run_entry_at (P := Ybaz.prog) _ w.heap.size b clock #[] es clock y hrn hbn hym hst.2.1
      rw [hk.1, hk.2] at this
      exact this
    · refine ⟨?_, ?_, ?_, by simp [setBlock, hh1], fun i hi => ?_⟩
      · rcases hal with rfl | rfl <;> rfl
      · rcases hal with rfl | rfl <;> rfl
      · rcases hal with rfl | rfl <;> rfl
      · simp only [setBlock]
        rw [Array.getElem?_setIfInBounds, if_neg (by omega), hh1]
        exact (MapKept.heap_alloc w _).2 i hi
    · rcases run_next_at (P := Ybaz.prog) w3 ty w.heap.size b clock clock (#[].push y.born) es clock (k2.trans hrn) (k1.trans hbn) hst.1 (Nat.le_refl _) with ⟨_, hrun⟩ | ⟨z, hz, _⟩
      · exact hrun
      · exfalso
        have hzm : z ∈ es.toList ∧ (#[].push y.born).contains z.born = false := by unfold leftOf at hz; simp at hz ⊢; exact hz
        have := hxe z hzm.1
        subst this
        simp at hzm
end Go.Proofs.YbulkcelaGreatDoor
