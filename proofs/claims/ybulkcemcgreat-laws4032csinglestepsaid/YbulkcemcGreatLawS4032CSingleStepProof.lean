/-
  THE PROOF OF 'Rows.LawS4032CSingleStepSaid': the frame after the guide's proof-skeleton.mjs; the walk: YbulkcemcGreatLaw.
-/
import Derived.Test.YbulkcemcGreatRows
import Derived.Test.YbulkcemcGreatOpen
import Derived.WalkKit
namespace Go.Proofs.YbulkcemcGreat.lawS4032CSingleStep
open Go.ChangeShapes Go.WideShapes Go.ChangeAt Go.RowKit

theorem own : ownKnob Ybaz.prog.godebug = none := by kernel_rfl
theorem laidOut : laidOutB Ybaz.prog = true := by kernel_rfl

set_option maxRecDepth 100000 in
theorem lifted (os : Os) (started : os.Started) (H : Type) (enc : TypeId × Value → H) :
    ReturnsInHanded {} Ybaz.checked os 3 .any (Rows.lawS4032CSingleStepSpec.pre6 enc Ybaz.prog Ybaz.f3 Rows.lawS4032CSingleStepRow.domain false) (Rows.lawS4032CSingleStepSpec.post enc Ybaz.prog Ybaz.f3 false true false false) := by
  refine returnsInHanded_of_change (C := Ybaz.checked) own started (by kernel_rfl) Ybaz.func3
    (ChangeSpec.witness6 (enc := enc) (C := Ybaz.checked) false ⟨#[], #[.slice none 0 0, .slice none 0 0, .int .u8 0, .int .i32 0, .int .u16 0], []⟩ 8 (by kernel_rfl) (by kernel_rfl) (by kernel_rfl) (by kernel_rfl)) ?_
  intro W base args ds gs before hval0 hW hcnd _
  have hval : ∀ (j : Nat) t v, Ybaz.f3.params[j]? = some t → args[j]? = some v → Value.okWide Ybaz.prog W .any base t v := hval0
  have hW' := hW
  obtain ⟨p, q, hA0, hV, rfl, hfz, hnd⟩ := hW
  have hA : DataW.TrodAll enc Ybaz.prog W 0 (fun _ => true) true Ybaz.f3.params.toList args.toList ds p := hA0
  rw [Ybaz.params3] at hA hval
  obtain ⟨v0, vs0, d0, ds0, p0, q0, hargs, rfl, rfl, h0, r0⟩ := trodAll_cons hA
  obtain ⟨v1, vs1, d1, ds1, p1, q1, rfl, rfl, rfl, h1, r1⟩ := trodAll_cons r0
  obtain ⟨v2, vs2, d2, ds2, p2, q2, rfl, rfl, rfl, h2, r2⟩ := trodAll_cons r1
  obtain ⟨v3, vs3, d3, ds3, p3, q3, rfl, rfl, rfl, h3, r3⟩ := trodAll_cons r2
  obtain ⟨v4, vs4, d4, ds4, p4, q4, rfl, rfl, rfl, h4, r4⟩ := trodAll_cons r3
  obtain ⟨rfl, rfl, rfl⟩ := trodAll_nil r4
  obtain rfl : args = #[v0, v1, v2, v3, v4] := by cases args; simp_all
  obtain ⟨rfl, rfl⟩ := trodVars_none hV
  have k0 := h0
  have k1 := h1
  have k2 := h2
  have k3 := h3
  have k4 := h4
  have lt0 : ∀ x ∈ p0, x.block < W.heap.size := by obtain ⟨m, hm⟩ := k0; exact DataW.trod_lt m _ _ _ hm
  have lt1 : ∀ x ∈ p1, x.block < W.heap.size := by obtain ⟨m, hm⟩ := k1; exact DataW.trod_lt m _ _ _ hm
  have lt2 : ∀ x ∈ p2, x.block < W.heap.size := by obtain ⟨m, hm⟩ := k2; exact DataW.trod_lt m _ _ _ hm
  have lt3 : ∀ x ∈ p3, x.block < W.heap.size := by obtain ⟨m, hm⟩ := k3; exact DataW.trod_lt m _ _ _ hm
  have lt4 : ∀ x ∈ p4, x.block < W.heap.size := by obtain ⟨m, hm⟩ := k4; exact DataW.trod_lt m _ _ _ hm
  obtain ⟨a0, len0, cap0, rfl⟩ := okWide_slice Ybaz.underlying22 (hval 0 22 v0 rfl rfl)
  obtain ⟨a1, len1, cap1, rfl⟩ := okWide_slice Ybaz.underlying23 (hval 1 23 v1 rfl rfl)
  obtain ⟨sr, e2, _, _, w2⟩ := open_int Ybaz.underlying5 (hval 2 5 v2 rfl rfl) h2
  obtain ⟨lo, e3, _, _, w3⟩ := open_int Ybaz.underlying21 (hval 3 21 v3 rfl rfl) h3
  obtain ⟨U, e4, _, _, w4⟩ := open_int Ybaz.underlying24 (hval 4 24 v4 rfl rfl) h4
  obtain ⟨s0, s1⟩ := bounds_u8 w2
  obtain ⟨srn, rfl⟩ : ∃ srn : Nat, sr = srn := ⟨sr.toNat, (Int.toNat_of_nonneg s0).symm⟩
  subst e2 e3 e4
  obtain ⟨F, M, hS, hm0⟩ : ∃ (F : Nat → Int) (M : Nat → Nat), ArgS W W.heap.size a0 len0 F M ∧ (len0 : Int) ≤ 9223372036854775807 := by
    obtain ⟨fuel, hf⟩ := h0
    exact argS_of hf
  obtain ⟨G, hG, hm1⟩ : ∃ G : Nat → Nat, ArgB W W.heap.size a1 len1 G ∧ (len1 : Int) ≤ 9223372036854775807 := by
    obtain ⟨fuel, hf⟩ := h1
    exact argB_of hf
  clear hA0 hval0
  refine (law_walk a0 a1 len0 cap0 len1 cap1 srn F M G lo U W hS hG hm0 hm1 (bounds_i32 w3) (bounds_u16 w4)).mono fun e W' ⟨he, bel⟩ => ?_
  subst he
  exact ⟨_, rfl, _, _, _, [], _, [], hW', trodAll_mk1 (shut_bool Ybaz.underlying4 _), (trodAll_cons_mk (Below.trod laidOut (by kernel_rfl) (of_decide_eq_true (by kernel_rfl)) k0 bel lt0) (trodAll_cons_mk (Below.trod laidOut (by kernel_rfl) (of_decide_eq_true (by kernel_rfl)) k1 bel lt1) (trodAll_cons_mk (Below.trod laidOut (by kernel_rfl) (of_decide_eq_true (by kernel_rfl)) k2 bel lt2) (trodAll_cons_mk (Below.trod laidOut (by kernel_rfl) (of_decide_eq_true (by kernel_rfl)) k3 bel lt3) (trodAll_cons_mk (Below.trod laidOut (by kernel_rfl) (of_decide_eq_true (by kernel_rfl)) k4 bel lt4) trodAll_mk0))))), rfl, bel.frame _, fun h => by cases h⟩

theorem over : Rows.lawS4032CSingleStepRow.holds Ybaz.pinned (OpenSpec.ofChange Rows.lawS4032CSingleStepSpec) :=
  OpenClaim.holds_of_wide 3 Ybaz.f3 rfl rfl rfl rfl rfl rfl rfl ⟨rfl, rfl, rfl, rfl, rfl⟩ rfl rfl rfl rfl rfl (by kernel_rfl) Ybaz.func3 (by kernel_rfl)
    (of_decide_eq_true (by kernel_rfl)) (by unfold Func.isWrapper; first | (rw [if_pos (by decide +kernel)]; kernel_rfl) | (rw [if_neg (by decide +kernel)]; exact ⟨rfl, rfl⟩))
    (fun os started H enc _ => lifted os started H enc)

/-- ████ THE STATEMENT ████ -/
theorem proved : Rows.LawS4032CSingleStepSaid := over
#print axioms proved
end Go.Proofs.YbulkcemcGreat.lawS4032CSingleStep
