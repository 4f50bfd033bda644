/-
  THE PROOF OF 'Rows.LawS4029BReducedSaid': the frame by proof-skeleton.mjs (the guide's template at this function), the walk by hand.
-/
import Derived.Test.YbulkcekmRows
import Derived.Test.YbulkcekmFacts
import Derived.WalkKit
import Derived.ProofKit
import Derived.OpenShut
import Derived.ShutString
namespace Go.Proofs.Ybulkcekm.lawS4029BReduced
open Go.ChangeShapes Go.WideShapes Go.ChangeAt Go.RowKit
open Go.ChangeMaps (open_string shut_string)
set_option linter.unusedVariables false      -- a walk need not use every 'w<i>' (that an integer argument fits its kind)

theorem own : ownKnob Yba.prog.godebug = none := by kernel_rfl

/-! ### STEP 1: THE WALK: the Go text returns true. 'Grown w w'': the world has at most new blocks (Derived/RowKit3.lean). Part the cases AHEAD of 'go_enter' where a test parts the walk; take each callee by a contract of your own. -/
set_option maxHeartbeats 1000000 in
theorem walk (a0 : Int) (a1 : Int) (a2 : Int) (w0 : (Lit.int .u64 a0).wf = true) (w1 : (Lit.int .u64 a1).wf = true) (w2 : (Lit.int .i64 a2).wf = true) (w : World) :
    Calls Yba.prog 3 #[.int .u64 a0, .int .u64 a1, .int .i64 a2] w fun e w' => e = .returned (.bool true) ∧ Grown w w' := by
  obtain ⟨w0, w0'⟩ := bounds_of_wf_u64 w0
  obtain ⟨w1, w1'⟩ := bounds_of_wf_u64 w1
  have hr := sh_range a2
  obtain ⟨sh, hsh⟩ : ∃ sh, wrap64 ((IntKind.u64.wrap a2).tmod 64) = sh := ⟨_, rfl⟩
  rw [hsh] at hr
  obtain ⟨hs0, hs1⟩ := hr
  have hb := bound_range sh hs0 hs1
  obtain ⟨B, hB⟩ : ∃ B, IntKind.u64.wrap (2 ^ sh.toNat) = B := ⟨_, rfl⟩
  rw [hB] at hb
  obtain ⟨hB1, hB2⟩ := hb
  by_cases hc : a0 ≤ B ∨ a1 ≤ B
  · by_cases hc1 : a0 ≤ B
    · go_enter Yba.func3, Yba.ntmps3
      go_wp2_with fail
      refine (rw_small a0 a1 sh B hs0 hs1 hB hc _).mono ?_
      rintro e w' ⟨rfl, hg⟩
      have A : Aside (Grown w w') := hg
      clear hg hc
      go_wp2
      go_ret
      exact ⟨rfl, (A.out.alloc _ _)⟩
    · have hc2 : a1 ≤ B := by omega
      go_enter Yba.func3, Yba.ntmps3
      go_wp2_with fail
      refine (rw_small a0 a1 sh B hs0 hs1 hB hc _).mono ?_
      rintro e w' ⟨rfl, hg⟩
      have A : Aside (Grown w w') := hg
      clear hg hc
      go_wp2
      go_ret
      exact ⟨rfl, (A.out.alloc _ _)⟩
  · have hc1 : ¬ a0 ≤ B := fun h => hc (Or.inl h)
    have hc2 : ¬ a1 ≤ B := fun h => hc (Or.inr h)
    clear hc
    go_enter Yba.func3, Yba.ntmps3
    go_wp2_with fail
    refine (rw_walk a0 a1 sh B w0 w0' w1 w1' hs0 hs1 hB hB1 hB2 (by omega) (by omega) _).mono ?_
    rintro e w' ⟨n, rfl, hst, hg⟩
    have hinv := (Inv.start (B := B) (a := a0) (b := a1) (by omega) (by omega)).it n
    generalize it B n (st0 a0 a1) = S at *
    obtain ⟨x, y, p, q, r, t⟩ := S
    have hsz := hinv.sized (by omega)
    obtain ⟨p1, t1, xa, yb, pa, qa, rb, tb, px, qy, rx, ty⟩ := hsz
    have q0 := hinv.q0
    have r0 := hinv.r0
    have hx := hinv.hx
    have hy := hinv.hy
    simp only at p1 t1 xa yb pa qa rb tb px qy rx ty q0 r0 hx hy ⊢
    have A : Aside (Stop B ⟨x, y, p, q, r, t⟩ ∧ Inv a0 a1 B ⟨x, y, p, q, r, t⟩ ∧ Grown w w') := ⟨hst, hinv, hg⟩
    have f1 := wrap_sub2 (p * t) (q * r) 1 hinv.det (by omega) (by omega)
    have f2 := wrap_sub2 (t * a0) (q * a1) x hinv.backx (by omega) (by omega)
    have f3 := wrap_sub2 (p * a1) (r * a0) y hinv.backy (by omega) (by omega)
    have f4 := wrap_add2 (p * x) (q * y) a0 hinv.ea (by omega) (by omega)
    have f5 := wrap_add2 (r * x) (t * y) a1 hinv.eb (by omega) (by omega)
    have hs2 := hst.1
    have hs3 := hst.2
    simp only at hs2 hs3
    have g1 : ¬ x ≤ B := by omega
    have g2 : ¬ y ≤ B := by omega
    have g3 : ¬ a0 < x := by omega
    have g4 : ¬ a1 < y := by omega
    clear hst hinv hg px qy rx ty
    by_cases hyx : x < y
    · go_wp2
      go_ret
      exact ⟨rfl, (A.out.2.2.alloc _ _)⟩
    · go_wp2
      go_ret
      exact ⟨rfl, (A.out.2.2.alloc _ _)⟩

/-! ### THE ROW's STEP: WRITTEN OUT: LEAVE IT -/
set_option maxRecDepth 100000 in
theorem lifted (os : Os) (started : os.Started) (H : Type) (enc : TypeId × Value → H) :
    ReturnsInHanded {} Yba.checked os 3 .any (Rows.lawS4029BReducedSpec.pre6 enc Yba.prog Yba.f3 Rows.lawS4029BReducedRow.domain false) (Rows.lawS4029BReducedSpec.post enc Yba.prog Yba.f3 false true false false) := by
  refine returnsInHanded_of_change (C := Yba.checked) own started (by kernel_rfl) Yba.func3
    (ChangeSpec.witness6 (enc := enc) (C := Yba.checked) false ⟨#[], #[.int .u64 0, .int .u64 0, .int .i64 0], []⟩ 8 (by kernel_rfl) (by kernel_rfl) (by kernel_rfl) (by kernel_rfl)) ?_
  intro W base args ds gs before hval0 hW hcnd _
  have hval : ∀ (j : Nat) t v, Yba.f3.params[j]? = some t → args[j]? = some v → Value.okWide Yba.prog W .any base t v := hval0
  have hW' := hW
  obtain ⟨p, q, hA0, hV, rfl, hfz, hnd⟩ := hW
  have hA : DataW.TrodAll enc Yba.prog W 0 (fun _ => true) true Yba.f3.params.toList args.toList ds p := hA0
  rw [Yba.params3] at hA hval
  obtain ⟨v0, vs0, d0, ds0, p0, q0, hargs, rfl, rfl, h0, r0⟩ := trodAll_cons hA
  obtain ⟨v1, vs1, d1, ds1, p1, q1, rfl, rfl, rfl, h1, r1⟩ := trodAll_cons r0
  obtain ⟨v2, vs2, d2, ds2, p2, q2, rfl, rfl, rfl, h2, r2⟩ := trodAll_cons r1
  obtain ⟨rfl, rfl, rfl⟩ := trodAll_nil r2
  obtain rfl : args = #[v0, v1, v2] := by cases args; simp_all
  obtain ⟨rfl, rfl⟩ := trodVars_none hV
  obtain ⟨a0, rfl, rfl, rfl, w0⟩ := open_int Yba.underlying22 (hval 0 22 v0 rfl rfl) h0
  obtain ⟨a1, rfl, rfl, rfl, w1⟩ := open_int Yba.underlying22 (hval 1 22 v1 rfl rfl) h1
  obtain ⟨a2, rfl, rfl, rfl, w2⟩ := open_int Yba.underlying3 (hval 2 3 v2 rfl rfl) h2
  clear hA0 hval0
  simp only [List.append_nil] at hW'
  refine (walk a0 a1 a2 w0 w1 w2 W).mono fun e W' ⟨he, hg⟩ => ?_
  subst he
  exact ⟨_, rfl, post_of_same (pa := []) (pv := []) hW' (fun _ _ _ => (trodAll_cons_mk (shut_bool Yba.underlying4 _) trodAll_mk0)) (fun sp _ => (trodAll_cons_mk (shut_int Yba.underlying22 w0) (trodAll_cons_mk (shut_int Yba.underlying22 w1) (trodAll_cons_mk (shut_int Yba.underlying3 w2) trodAll_mk0)))) (fun _ _ => rfl) rfl
    (hg.frame _) hg.2.1 (ok_one (by kernel_rfl) rfl (okWide_bool_mk Yba.underlying4 _))⟩

theorem over : Rows.lawS4029BReducedRow.holds Yba.pinned (OpenSpec.ofChange Rows.lawS4029BReducedSpec) :=
  OpenClaim.holds_of_wide 3 Yba.f3 rfl rfl rfl rfl rfl rfl rfl ⟨rfl, rfl, rfl, rfl, rfl⟩ rfl rfl rfl rfl rfl (by kernel_rfl) Yba.func3 (by kernel_rfl)
    (of_decide_eq_true (by kernel_rfl)) (by unfold Func.isWrapper; first | (rw [if_pos (by decide +kernel)]; kernel_rfl) | (rw [if_neg (by decide +kernel)]; exact ⟨rfl, rfl⟩))
    (fun os started H enc _ => lifted os started H enc)

/-- ████ THE STATEMENT ████ -/
theorem proved : Rows.LawS4029BReducedSaid :=
  over
#print axioms proved
end Go.Proofs.Ybulkcekm.lawS4029BReduced
