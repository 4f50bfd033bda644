/-
  LAWS FOR THE WALK OF NewKinds (seat b4030a): keys that are there; what stays while maps are written; append onto an owned row inside a region that draws its order.
-/
import Derived.Test.YbulkcelaBuild
import Derived.Deep.RegionLaw
namespace Go.Proofs.Ybulkcela
open Go.RowKit Go.MapKept
open Go.ChangeMaps (setBlock heap_setBlock_same heap_setBlock_other)

/-- The map in block r has the key s. -/
def HasKey (w : World) (r : Nat) (s : ByteArray) : Prop := ∃ es clock, w.heap[r]? = some (.map es clock) ∧ ∃ x ∈ es.toList, x.key = .string s

theorem HasKey.block {w w' : World} {r : Nat} {s : ByteArray} (h : HasKey w r s) (hb : w'.heap[r]? = w.heap[r]?) : HasKey w' r s := by
  obtain ⟨es, clock, h1, h2⟩ := h
  exact ⟨es, clock, hb.trans h1, h2⟩

theorem MapOf.keys {Kp : ByteArray → Prop} {Vp : Value → Prop} {es : Array MapEntry} (hx : ∀ x ∈ es.toList, ∃ s : ByteArray, x.key = .string s ∧ s.size ≤ maxLen ∧ Kp s ∧ Vp x.val) : ∀ x ∈ es.toList, ∃ l, keyOf Yba.prog 9 x.key = some l := fun x hxm => by
  obtain ⟨s', e1, e2, _⟩ := hx x hxm
  rw [e1]; exact key_ok e2

/-- 'm[k]': the zero value, or the key is there and the element is such as Vp says. -/
theorem MapOf.look2 {t e : TypeId} {w : World} {r : Nat} {Kp : ByteArray → Prop} {Vp : Value → Prop} (h : MapOf w r Kp Vp) (ht : Yba.prog.underlying t = some (.map 9 e)) {z : Value} (hz : (zeroValue e).run Yba.prog w = .ok z w) {s : ByteArray} (hs : s.size ≤ maxLen) :
    ∃ v, (Instr.lookup t (.map (some r)) (.string s) false).run Yba.prog w = .ok v w ∧ (v = z ∨ (Vp v ∧ HasKey w r s)) := by
  obtain ⟨es, clock, hb, _, hx⟩ := h
  obtain ⟨l, hl⟩ := key_ok hs
  rcases keyed9.find w hl es.toList (MapOf.keys hx) with ⟨h1, h2⟩ | ⟨j, e0, h1, h2, h3⟩
  · exact ⟨z, by simp [Instr.lookup, run_underlying ht, MapKept.run_getObj_map hb, keyed9.check w _ hl, h1, hz, Result.andThen], Or.inl rfl⟩
  · obtain ⟨_, _, _, _, hv⟩ := hx e0 (List.mem_of_getElem? h2)
    exact ⟨e0.val, by simp [Instr.lookup, run_underlying ht, MapKept.run_getObj_map hb, keyed9.check w _ hl, h1, Result.andThen], Or.inr ⟨hv, es, clock, hb, e0, List.mem_of_getElem? h2, h3⟩⟩

/-- 'm[k]' at a key that is there. -/
theorem MapOf.look_has {t e : TypeId} {w : World} {r : Nat} {Kp : ByteArray → Prop} {Vp : Value → Prop} (h : MapOf w r Kp Vp) (ht : Yba.prog.underlying t = some (.map 9 e)) {s : ByteArray} (hs : s.size ≤ maxLen) (hk : HasKey w r s) :
    ∃ v, (Instr.lookup t (.map (some r)) (.string s) false).run Yba.prog w = .ok v w ∧ Vp v := by
  obtain ⟨es, clock, hb, _, hx⟩ := h
  obtain ⟨es', clock', hb', x, hxm, hxk⟩ := hk
  rw [hb] at hb'
  cases hb'
  obtain ⟨l, hl⟩ := key_ok hs
  rcases keyed9.find w hl es.toList (MapOf.keys hx) with ⟨h1, h2⟩ | ⟨j, e0, h1, h2, h3⟩
  · exact absurd hxk (h2 x hxm)
  · obtain ⟨_, _, _, _, hv⟩ := hx e0 (List.mem_of_getElem? h2)
    exact ⟨e0.val, by simp [Instr.lookup, run_underlying ht, MapKept.run_getObj_map hb, keyed9.check w _ hl, h1, Result.andThen], hv⟩

/-- 'm[k] = v': .. and the key is there behind it. -/
theorem MapOf.store2 {t e : TypeId} {w : World} {r : Nat} {Kp : ByteArray → Prop} {Vp : Value → Prop} (h : MapOf w r Kp Vp) (ht : Yba.prog.underlying t = some (.map 9 e)) {s : ByteArray} (hs : s.size ≤ maxLen) (hk : Kp s) {v : Value} (hv : Vp v) :
    ∃ w', (Instr.mapUpdate t (.map (some r)) (.string s) v).run Yba.prog w = .ok () w' ∧ MapOf w' r Kp Vp ∧ HasKey w' r s ∧ w.grownBy w' (some r) ∧ w'.heap.size = w.heap.size := by
  obtain ⟨es, clock, hb, hst, hx⟩ := h
  obtain ⟨l, hl⟩ := key_ok hs
  rcases keyed9.find w hl es.toList (MapOf.keys hx) with ⟨h1, h2⟩ | ⟨j, e0, h1, h2, h3⟩
  · refine ⟨setBlock w r (.map (es.push ⟨.string s, v, clock⟩) (clock + 1)), ?_, ⟨_, _, heap_setBlock_same hb _, stamped_push hst h2, ?_⟩, ⟨_, _, heap_setBlock_same hb _, ⟨.string s, v, clock⟩, by simp, rfl⟩, ⟨rfl, rfl, rfl, by simp [setBlock], fun i _ hi => heap_setBlock_other hb _ (fun e => hi (by rw [e]))⟩, by simp [setBlock]⟩
    · simp [Instr.mapUpdate, run_underlying ht, MapKept.run_getObj_map hb, keyed9.check w false hl, h1, MapKept.run_setObj_map _ hb, Result.andThen, setBlock]
    · intro x hxm
      simp only [Array.toList_push, List.mem_append, List.mem_singleton] at hxm
      rcases hxm with hxm | rfl
      · exact hx x hxm
      · exact ⟨s, rfl, hs, hk, hv⟩
  · have hj : es[j]? = some e0 := by simpa using h2
    have hjl : j < es.toList.length := (List.getElem?_eq_some_iff.1 h2).1
    have hkeyf : ∀ e', es[j]? = some e' → ({ e' with key := .string s, val := v } : MapEntry).key = e'.key := fun e' he' => by rw [hj] at he'; cases he'; exact h3.symm
    have hlist : (es.modify j (fun e' => { e' with key := .string s, val := v })).toList = es.toList.set j { e0 with key := .string s, val := v } := by rw [Array.toList_modify, Go.ChangeMaps.modify_eq_set _ _ _ _ h2]
    refine ⟨setBlock w r (.map (es.modify j (fun e' => { e' with key := .string s, val := v })) clock), ?_, ⟨_, _, heap_setBlock_same hb _, stamped_modify hst _ _ (fun _ _ => rfl) (fun e' _ he' => hkeyf e' he'), ?_⟩, ⟨_, _, heap_setBlock_same hb _, { e0 with key := .string s, val := v }, ?_, rfl⟩, ⟨rfl, rfl, rfl, by simp [setBlock], fun i _ hi => heap_setBlock_other hb _ (fun e => hi (by rw [e]))⟩, by simp [setBlock]⟩
    · simp [Instr.mapUpdate, run_underlying ht, MapKept.run_getObj_map hb, keyed9.check w false hl, h1, hj, h3, keyed9.stays w hl, MapKept.run_setObj_map _ hb, Result.andThen, setBlock]
    · intro x hxm
      rw [hlist] at hxm
      rcases List.mem_or_eq_of_mem_set hxm with hxm | rfl
      · exact hx x hxm
      · exact ⟨s, rfl, hs, hk, hv⟩
    · rw [hlist]
      exact List.mem_iff_getElem?.2 ⟨j, by rw [List.getElem?_set_self hjl]⟩

/-- Only maps and iterators from block lo on have turned, and there are new blocks. -/
structure MGr (lo : Nat) (w w' : World) : Prop where
  os : w'.os = w.os
  tape : w'.tape = w.tape
  output : w'.output = w.output
  size : w.heap.size ≤ w'.heap.size
  low : ∀ k, k < lo → w'.heap[k]? = w.heap[k]?
  cells : ∀ (k : Nat) (c : Array Value) (t : TypeId) (f : Nat × Nat), w.heap[k]? = some (.cells c t f) → w'.heap[k]? = some (.cells c t f)

theorem MGr.refl (lo : Nat) (w : World) : MGr lo w w := ⟨rfl, rfl, rfl, Nat.le_refl _, fun _ _ => rfl, fun _ _ _ _ h => h⟩

theorem MGr.trans {lo : Nat} {a b c : World} (h : MGr lo a b) (k : MGr lo b c) : MGr lo a c :=
  ⟨k.os.trans h.os, k.tape.trans h.tape, k.output.trans h.output, Nat.le_trans h.size k.size, fun i hi => (k.low i hi).trans (h.low i hi), fun i c t f hc => k.cells i c t f (h.cells i c t f hc)⟩

theorem MGr.below {lo : Nat} {w w' : World} (h : MGr lo w w') : Below lo w w' := ⟨h.os, h.tape, h.output, h.size, h.low⟩

theorem MGr.of_grown {lo r : Nat} {w w' : World} (hg : w.grownBy w' (some r)) (hlo : lo ≤ r) (hs : lo ≤ w.heap.size) (hr : ∀ c t f, w.heap[r]? ≠ some (.cells c t f)) : MGr lo w w' :=
  ⟨hg.os, hg.tape, hg.output, hg.size, fun k hk => hg.block k (by omega) (fun e => by injection e; omega), fun k c t f hc => by
    have hlt := (Array.getElem?_eq_some_iff.1 hc).1
    by_cases e : k = r
    · subst e; exact absurd hc (hr c t f)
    · rw [hg.block k hlt (fun e' => e (by injection e'))]; exact hc⟩

theorem MGr.of_none {lo : Nat} {w w' : World} (hg : w.grownBy w' none) (hs : lo ≤ w.heap.size) : MGr lo w w' :=
  ⟨hg.os, hg.tape, hg.output, hg.size, fun k hk => hg.block k (by omega) (by simp), fun k c t f hc => by
    rw [hg.block k (Array.getElem?_eq_some_iff.1 hc).1 (by simp)]; exact hc⟩

theorem MGr.alloc (lo : Nat) (w : World) (o : Obj) (hs : lo ≤ w.heap.size) : MGr lo w (w.alloc o) := MGr.of_none (World.grownBy_alloc w o none) hs

theorem MapOf.no_cells {w : World} {r : Nat} {Kp : ByteArray → Prop} {Vp : Value → Prop} (h : MapOf w r Kp Vp) : ∀ c t f, w.heap[r]? ≠ some (.cells c t f) := by
  obtain ⟨es, clock, hb, _⟩ := h
  intro c t f e
  rw [hb] at e
  cases e

theorem Iter.no_cells {w : World} {b r : Nat} {Kp : ByteArray → Prop} {Vp : Value → Prop} {cnt : Nat} (h : Iter w b r Kp Vp cnt) : ∀ c t f, w.heap[r]? ≠ some (.cells c t f) := by
  obtain ⟨es, clock, since, seen, c0, _, _, _, hr, _⟩ := h
  intro c t f e
  rw [hr] at e
  cases e

theorem ownsRow_mgr {lo base : Nat} {w w' : World} {e : TypeId} {size : Nat} {v : Value} {n : Nat} {xs : List Value} (h : w.ownsRow base e size v n xs) (hm : MGr lo w w') : w'.ownsRow base e size v n xs := by
  obtain ⟨h1, h2⟩ := h
  refine ⟨h1, ?_⟩
  rcases h2 with h2 | ⟨g, cap, cur, hv, hg, hh, r⟩
  · exact Or.inl h2
  · exact Or.inr ⟨g, cap, cur, hv, hg, hm.cells _ _ _ _ hh, r⟩

/-- 'append' ONTO A ROW OF THE CALL's OWN, AS ONE STEP OF A REGION THAT DRAWS ITS ORDER: there is room or not. -/
theorem step_append_own {P : Program} {ops : Array Oper} {o : Oper} {a : Act} {w : World} {K : Act → World → Prop} {Q : Exit → Act → World → Prop} {E : Prop}
    (hg : o.guard = none) (s x : Operand) (t : TypeId) (hop : o.op = Op.call { callee := Callee.builtin Builtin.append, args := #[s, x], argTypes := #[t, t] })
    (base : Nat) (e : TypeId) (i : TypeInfo) (z : Value) (size bytes : Nat) (h1 : P.underlying t = some (.slice e)) (h2 : P.info? e = some i) (h3 : i.zero = some z) (h4 : i.size = size) (h5 : i.bytes = bytes) (h6 : z.cells.size = size) (h7 : 0 < size)
    (v : Value) (n : Nat) (xs : List Value) (hs : a.eval s = v) (hown : w.ownsRow base e size v n xs)
    (ad : Addr) (m c : Nat) (news : List Value) (hx : a.eval x = .slice (some ad) m c) (hn : news.length = m * size) (hc : ∀ j u, news[j]? = some u → w.cell? (ad.add j) = some u) (h1c : ∀ u ∈ news, u.oneCell' = true)
    (b1 : n + m ≤ maxLen) (b2 : (n + m) * bytes ≤ 140737488355328) (hbase : base ≤ w.heap.size)
    (hK : ∀ v' w', w'.ownsRow base e size v' (n + m) (xs ++ news) → w.grownBy w' v.ownBlock → K (a.put o.dst v') w') :
    if Region.wanted o (yielded ops a.tmps) = true then Oper.wp P o a w K Q else E := by
  have hw : Region.wanted o (yielded ops a.tmps) = true := by simp [Region.wanted, hg]
  rw [if_pos hw]
  obtain ⟨v', w', hrun, r1, r2, _⟩ := run_append_own (P := P) w base t o.type e i z size bytes h1 h2 h3 h4 h5 h6 h7 v n xs hown ad m c news hn hc h1c b1 b2 hbase
  unfold Oper.wp
  simp [execOp, hop, resolve, invoke, builtin, hs, hx, hrun, Result.andThen]
  exact hK v' w' r1 r2
end Go.Proofs.Ybulkcela
