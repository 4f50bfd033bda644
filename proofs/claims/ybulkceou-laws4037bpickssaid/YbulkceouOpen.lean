/-
  Arrays of three, by value, opened (seat b4037a).
-/
import Derived.Test.YbulkceouRows
import Derived.ProofKit
import Derived.ChangeOld
import Derived.OpenShut
import Derived.Lib.SmallJoins
namespace Go.Proofs.Ybulkceou
open Go.ChangeShapes Go.WideShapes Go.ChangeAt Go.RowKit

section
variable {P : Program} {H : Type} {enc : TypeId × Value → H} {w : World} {base b0 : Nat} {spare : Nat → Bool} {held : Bool} {r : Reach}

theorem okWide_array {n : Nat} {t e : TypeId} {v : Value} (ht : P.underlying t = some (.array n e)) (h : Value.okWide P w r b0 t v) : ∃ cs, v = .agg cs ∧ cs.size = P.cellsOf t := by
  unfold Value.okWide at h
  rw [ht] at h
  obtain ⟨cs, h1, h2, _⟩ := h
  exact ⟨cs, h1, h2⟩

theorem three_of {t e : TypeId} {v : Value} {d : DataW H} {p : List MemPlace} (ht : P.underlying t = some (.array 3 e)) (hC : P.cellsOf t = 3) (he : P.cellsOf e = 1) (hv : Value.okWide P w r b0 t v) (h : DataW.Trod enc P w base spare held t v d p) :
    ∃ (v0 v1 v2 : Value) (n : Nat) (y0 y1 y2 : DataW H × List MemPlace), v = .agg #[v0, v1, v2] ∧ DataW.trod enc P w base spare held n e [v0] = some y0 ∧ DataW.trod enc P w base spare held n e [v1] = some y1 ∧ DataW.trod enc P w base spare held n e [v2] = some y2 := by
  obtain ⟨cs, rfl, hsz⟩ := okWide_array ht hv
  obtain ⟨c0, c1, c2, rfl⟩ := Joins.array3 (hsz.trans hC)
  obtain ⟨fuel, hf⟩ := h
  obtain ⟨xs, m, _, _, _, hl, hx⟩ := DataW.trod_array ht hf
  have x0 := hx 0 (by omega)
  have x1 := hx 1 (by omega)
  have x2 := hx 2 (by omega)
  rw [List.getElem?_eq_getElem (by omega)] at x0 x1 x2
  simp [Value.cells, he] at x0 x1 x2
  exact ⟨c0, c1, c2, m, _, _, _, rfl, x0, x1, x2⟩

theorem ints3 {t e : TypeId} {v : Value} {d : DataW H} {p : List MemPlace} (ht : P.underlying t = some (.array 3 e)) (hC : P.cellsOf t = 3) (hc : P.cellsOf e = 1) (he : P.underlying e = some (.int .u64)) (hv : Value.okWide P w r b0 t v) (h : DataW.Trod enc P w base spare held t v d p) : ∃ a b c : Int, v = .agg #[.int .u64 a, .int .u64 b, .int .u64 c] := by
  obtain ⟨v0, v1, v2, n, y0, y1, y2, rfl, h0, h1, h2⟩ := three_of ht hC hc hv h
  obtain ⟨a, e0, _, _⟩ := DataW.trod_int he h0
  obtain ⟨b, e1, _, _⟩ := DataW.trod_int he h1
  obtain ⟨c, e2, _, _⟩ := DataW.trod_int he h2
  simp at e0 e1 e2
  subst e0 e1 e2
  exact ⟨a, b, c, rfl⟩

theorem bools3 {t e : TypeId} {v : Value} {d : DataW H} {p : List MemPlace} (ht : P.underlying t = some (.array 3 e)) (hC : P.cellsOf t = 3) (hc : P.cellsOf e = 1) (he : P.underlying e = some .bool) (hv : Value.okWide P w r b0 t v) (h : DataW.Trod enc P w base spare held t v d p) : ∃ a b c : Bool, v = .agg #[.bool a, .bool b, .bool c] := by
  obtain ⟨v0, v1, v2, n, y0, y1, y2, rfl, h0, h1, h2⟩ := three_of ht hC hc hv h
  obtain ⟨a, e0, _⟩ := DataW.trod_bool he h0
  obtain ⟨b, e1, _⟩ := DataW.trod_bool he h1
  obtain ⟨c, e2, _⟩ := DataW.trod_bool he h2
  simp at e0 e1 e2
  subst e0 e1 e2
  exact ⟨a, b, c, rfl⟩
end
end Go.Proofs.Ybulkceou
