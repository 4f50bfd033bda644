/-
  (*Kinds).Of, its second half: the index, a new kind (seat b4030aZD).
-/
import Derived.Test.YbulkcelaGreatDoorKs
import Derived.Test.YbulkcelaGreatDoorSorted
namespace Go.Proofs.YbulkcelaGreatDoor
open Go.RowKit Go.MapKept Go.Lib Go.Shelf Go.Maps

/-- A kind's key, as bytes. -/
def kbytes (k : Int) : List Int := if k = -1 then [] else if k = 0 then [49, 58, 97, 49, 58, 120] else if k = 1 then [49, 58, 97, 49, 58, 121] else [49, 58, 97, 49, 58, 122]
def kstr (k : Int) : ByteArray := strOfNums (kbytes k)
theorem kstr_size (k : Int) : (kstr k).size ≤ maxLen := by
  unfold kstr kbytes
  split
  · decide
  · split
    · decide
    · split <;> decide
theorem kstr_inj {j k : Int} (hj : -1 ≤ j ∧ j ≤ 2) (hk : -1 ≤ k ∧ k ≤ 2) (h : kstr j = kstr k) : j = k := by
  rcases (show j = -1 ∨ j = 0 ∨ j = 1 ∨ j = 2 by omega) with rfl | rfl | rfl | rfl <;> rcases (show k = -1 ∨ k = 0 ∨ k = 1 ∨ k = 2 by omega) with rfl | rfl | rfl | rfl <;> first | rfl | (exfalso; revert h; decide)

/-- The index of the kinds. -/
def idxEnts (ks : List Int) : Ents := (List.range ks.length).map fun j => (kstr (ks.getD j 0), .int .i64 j)

theorem idx_mem {ks : List Int} {j : Nat} {k : Int} (h : ks[j]? = some k) : (kstr k, Value.int .i64 j) ∈ idxEnts ks := by
  refine List.mem_map.2 ⟨j, List.mem_range.2 (List.getElem?_eq_some_iff.1 h).1, ?_⟩
  simp [List.getD, h]
theorem idx_not {ks : List Int} {k : Int} (hr : ∀ x ∈ ks, -1 ≤ x ∧ x ≤ 2) (hk : -1 ≤ k ∧ k ≤ 2) (h : k ∉ ks) : ∀ v, (kstr k, v) ∉ idxEnts ks := fun v hv => by
  obtain ⟨j, hj, e⟩ := List.mem_map.1 hv
  have hj' := List.mem_range.1 hj
  injection e with e1 _
  have hm : ks.getD j 0 ∈ ks := by simp [List.getD, hj']
  exact h (kstr_inj (hr _ hm) hk e1 ▸ hm)
theorem idx_snoc (ks : List Int) (k : Int) : idxEnts (ks ++ [k]) = idxEnts ks ++ [(kstr k, .int .i64 ks.length)] := by
  unfold idxEnts
  rw [List.length_append, List.length_singleton, List.range_succ, List.map_append]
  congr 1
  · refine List.map_congr_left fun j hj => ?_
    have := List.mem_range.1 hj
    simp [List.getD, List.getElem?_append_left this]
  · simp [List.getD]

/-- 'string(k.key)'. -/
theorem key_conv {P : Program} (h88 : P.underlying 88 = some (.slice 5)) (h5 : P.underlying 5 = some (.int .u8)) (h9 : P.underlying 9 = some .string) {w : World} {base n c : Nat} {p : Option Addr} {k : Int} (h : w.ownsRow base 5 1 (.slice p n c) n ((kbytes k).map (.int .u8))) (W : World) (hW : ∀ a v, w.cell? a = some v → W.cell? a = some v) :
    (convert 88 9 (.slice p n c)).run P W = .ok (.string (kstr k)) W := by
  have hn : (kbytes k).length = n := by simpa using h.1
  rcases h.2 with ⟨e, e2⟩ | ⟨g, cp, cur, e, _⟩
  · injection e with e1 e2' e3
    subst e1
    have : kbytes k = [] := List.length_eq_zero_iff.1 (by omega)
    have hr := run_convert_bytes_nil (P := P) W 88 5 h88 h5 n c 9 h9
    rw [hr]
    unfold kstr
    rw [this]
    rfl
  · injection e with e1 _ _
    subst e1
    refine run_convert_bytes_arg (P := P) W 88 5 h88 h5 g 0 n c (kbytes k) hn (fun i hi => ?_) 9 h9
    refine hW _ _ ?_
    rw [Nat.zero_add, h.cellAt i (by omega), List.getElem?_map]
    simp [List.getD, show i < (kbytes k).length by omega]

theorem look_nil (t e : TypeId) (W : World) (s : ByteArray) (z : Value) (ht : Ybaz.prog.underlying t = some (.map 9 e)) (hz : (zeroValue e).run Ybaz.prog W = .ok z W) (hs : s.size ≤ maxLen) : (Instr.lookup t (.map none) (.string s) false).run Ybaz.prog W = .ok z W := by
  obtain ⟨k, hk⟩ := key_ok hs
  rcases keyed9.find W hk [] (by simp) with ⟨h1, _⟩ | ⟨j, e0, _, h2, _⟩
  · simp [Instr.lookup, run_underlying ht, keyed9.check W _ hk, h1, hz, Result.andThen]
  · simp at h2

set_option maxRecDepth 100000 in
theorem zero91 (W : World) : (zeroValue 91).run Ybaz.prog W = .ok (.map none) W := by rfl
set_option maxRecDepth 100000 in
theorem zero4 (W : World) : (zeroValue 4).run Ybaz.prog W = .ok (.bool false) W := by rfl

/-- What is looked up in what is accepted: a value that no contract accepts. -/
theorem acc_no {w : World} {b0 len m : Nat} {V : Nat → Nat} (hA : Acc w (b0 + 2) b0 V len) (hV : ∀ i, i < len → V i < 3) (hm : m < 3) (hno : ∀ i, i < len → V i ≠ m) (s : ByteArray) (hs : s.size ≤ maxLen) :
    ∃ mv, (Instr.lookup 84 (.map (some b0)) (.string s) false).run Ybaz.prog w = .ok mv w ∧ (Instr.lookup 91 mv (.string (valS m)) false).run Ybaz.prog w = .ok (.bool false) w := by
  have hnil := look_nil 91 4 w (valS m) (.bool false) Ybaz.underlying91 (zero4 w) (valS_size m)
  rcases hA with ⟨_, h2⟩ | ⟨_, mb, vs, _, _, h4, h5, h6⟩
  · exact ⟨.map none, (h2.look_none (t := 84) (e := 91) Ybaz.underlying84 (z := .map none) (zero91 w) hs (fun v hv => by cases hv)).1, hnil⟩
  · by_cases hsa : s = aS
    · subst hsa
      refine ⟨_, (h4.look_some (t := 84) (e := 91) Ybaz.underlying84 (by simp)).1, (h5.look_none (t := 91) (e := 4) Ybaz.underlying91 (z := .bool false) (zero4 w) (valS_size m) (fun v hv => ?_)).1⟩
      obtain ⟨u, hu, e⟩ := List.mem_map.1 hv
      injection e with e1 _
      obtain ⟨i, hi, rfl⟩ := (h6 u).1 hu
      exact hno i hi (valS_inj (hV i hi) hm e1)
    · exact ⟨.map none, (h4.look_none (t := 84) (e := 91) Ybaz.underlying84 (z := .map none) (zero91 w) hs (fun v hv => by simp at hv; exact hsa hv.1)).1, hnil⟩

theorem closure36 (pb b0 len m : Nat) (V : Nat → Nat) (s : ByteArray) (W : World) (hp : W.cell? ⟨pb, 0, none⟩ = some (.pointer (some ⟨b0 + 2, 0, none⟩))) (hbx : W.cell? ⟨b0 + 2, 0, none⟩ = some (.map (some b0)))
    (hA : Acc W (b0 + 2) b0 V len) (hV : ∀ i, i < len → V i < 3) (hm : m < 3) (hno : ∀ i, i < len → V i ≠ m) (hs : s.size ≤ maxLen) :
    Calls Ybaz.prog 36 #[.string s, .string (valS m), .pointer (some ⟨pb, 0, none⟩)] W fun e w' => e = .returned (.bool true) ∧ W.grownBy w' none := by
  obtain ⟨mv, h1, h2⟩ := acc_no hA hV hm hno s hs
  clear hA hV hno
  go_enter Ybaz.func36, Ybaz.ntmps36
  go_wp2
  go_ret
  exact ⟨rfl, rfl, rfl, rfl, Nat.le_refl _, fun _ _ _ => rfl⟩

theorem clone34 (r : Nat) (l : Ents) (w : World) (hM : MapL w r l) : Calls Ybaz.prog 34 #[.map (some r)] w fun e w' => e = .returned (.map (some w.heap.size)) ∧ Below w.heap.size w w' ∧ MapL w' w.heap.size l ∧ w'.heap.size = w.heap.size + 1 := by
  obtain ⟨es, ck, hb, hst, he, hl⟩ := hM
  have h := AnyW.maps_Clone Ybaz.cloneM r es ck w hb
  change Calls Ybaz.prog 34 _ _ _ at h
  refine h.mono fun e w' ⟨h1, h2⟩ => ⟨h1, ?_, ?_, by rw [h2]; simp⟩
  · rw [h2]; exact (Below.refl _ _).alloc (Nat.le_refl _) _
  · rw [h2]; exact ⟨es, ck, (MapKept.heap_alloc w _).1, hst, he, hl⟩

/-- Reads the one value that is not accepted, and no other. -/
def onlyElem (u : ByteArray) (v : Value) : Option (DataW Unit × List MemPlace) := match v with
  | .string s => if s = u then some (.nil, []) else none
  | _ => none

theorem del35 (pb b0 len m r : Nat) (V : Nat → Nat) (w : World) (hM : MapL w r [(aS, .string (valS m))]) (hr : b0 + 2 < r) (hpr : pb ≠ r) (hpl : pb < w.heap.size) (hbl : b0 + 2 < w.heap.size) (hp : w.cell? ⟨pb, 0, none⟩ = some (.pointer (some ⟨b0 + 2, 0, none⟩))) (hbx : w.cell? ⟨b0 + 2, 0, none⟩ = some (.map (some b0)))
    (hAr : ∀ W, w.grownBy W (some r) → Acc W (b0 + 2) b0 V len) (hV : ∀ i, i < len → V i < 3) (hm : m < 3) (hno : ∀ i, i < len → V i ≠ m) :
    Calls Ybaz.prog 35 #[.map (some r), .func (.func 36) #[] #[.pointer (some ⟨pb, 0, none⟩)]] w fun e w' => e = .returned (.tuple #[]) ∧ MapL w' r [] ∧ w.grownBy w' (some r) := by
  have hne : (some (b0 + 2) : Option Nat) ≠ some r := fun e => by injection e with e; omega
  have hown := hM.owns (H := Unit) (onlyElem (valS m)) (fun _ => .nil) (fun p hp => by simp at hp; subst hp; simp [onlyElem]) 1 (by simp) (by simp [maxLen])
  have h := AnyDf.maps_DeleteFunc Ybaz.delF keyed9 (onlyElem (valS m)) (fun _ _ => true) 36 #[.pointer (some ⟨pb, 0, none⟩)] r 1 _ w (enters_of Ybaz.func36 (by kernel_rfl) rfl) hown (fun W key val kl yd yp hg hk hv => by
    obtain ⟨x, rfl, _, hx⟩ := Maps.keyOf_str Ybaz.underlying9 hk
    have hval : val = .string (valS m) := by
      unfold onlyElem at hv
      split at hv
      · split at hv
        · rename_i e; rw [e]
        · cases hv
      · cases hv
    subst hval
    exact closure36 pb b0 len m V _ W ((hg.cell_far ⟨pb, 0, none⟩ hpl (fun e => hpr (by injection e))).trans hp) ((hg.cell_far ⟨b0 + 2, 0, none⟩ hbl hne).trans hbx) (hAr W hg) hV hm hno (by simpa [ByteArray.size] using hx))
  change Calls Ybaz.prog 35 _ _ _ at h
  refine h.mono fun e w' ⟨h1, h2, h3⟩ => ⟨h1, MapL.of_owns_nil (n := 1) (R := onlyElem (valS m)) ?_, h3⟩
  exact h2
end Go.Proofs.YbulkcelaGreatDoor
