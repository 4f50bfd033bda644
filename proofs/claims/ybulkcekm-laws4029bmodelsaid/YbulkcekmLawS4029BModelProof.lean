/-
  THE PROOF OF 'Rows.LawS4029BModelSaid': the frame by proof-skeleton.mjs (the guide's template at this function), the walk by hand.
-/
import Derived.Test.YbulkcekmRows
import Derived.Test.YbulkcekmFacts
import Derived.WalkKit
import Derived.ProofKit
import Derived.OpenShut
import Derived.ShutString
namespace Go.Proofs.Ybulkcekm.lawS4029BModel
open Go.ChangeShapes Go.WideShapes Go.ChangeAt Go.RowKit
open Go.ChangeMaps (open_string shut_string)
set_option linter.unusedVariables false      -- a walk need not use every 'w<i>' (that an integer argument fits its kind)

theorem own : ownKnob Yba.prog.godebug = none := by kernel_rfl


/-- The end of the law, behind either way out of the loop: both matrices are reached by single steps, and both stand still. -/
theorem same_end {B a b : Int} {k n : Nat} {s : St} (hk : it B k (st0 a b) = s) (h1 : Stop B s) (h2 : Stop B (it B n (st0 a b))) : it B n (st0 a b) = s := by
  rw [← hk]; exact uniq h2 (by rw [hk]; exact h1)

set_option maxHeartbeats 4000000 in
theorem walk (a0 : Int) (a1 : Int) (a2 : Int) (w0 : (Lit.int .u16 a0).wf = true) (w1 : (Lit.int .u16 a1).wf = true) (w2 : (Lit.int .u8 a2).wf = true) (w : World) :
    Calls Yba.prog 4 #[.int .u16 a0, .int .u16 a1, .int .u8 a2] w fun e w' => e = .returned (.bool true) ∧ Grown w w' := by
  obtain ⟨w0, w0'⟩ := bounds_u16 w0
  obtain ⟨w1, w1'⟩ := bounds_u16 w1
  obtain ⟨w2, w2'⟩ := bounds_u8 w2
  have hs0 : 0 ≤ a2 % 20 := by omega
  have hs1 : a2 % 20 ≤ 63 := by omega
  have hb := bound_range (a2 % 20) hs0 hs1
  obtain ⟨B, hB⟩ : ∃ B, IntKind.u64.wrap (2 ^ (a2 % 20).toNat) = B := ⟨_, rfl⟩
  rw [hB] at hb
  obtain ⟨hB1, hB2⟩ := hb
  by_cases hc : a0 ≤ B ∨ a1 ≤ B
  · by_cases hc1 : B < a0
    · have hc2 : ¬ B < a1 := by omega
      go_enter Yba.func4, Yba.ntmps4
      go_wp2_with fail
      refine (rw_small a0 a1 (a2 % 20) B hs0 hs1 hB hc _).mono ?_
      rintro e w' ⟨rfl, hg⟩
      have A : Aside (Grown w w') := hg
      clear hg hc
      go_wp2
      go_ret
      exact ⟨rfl, (A.out.alloc _ _)⟩
    · go_enter Yba.func4, Yba.ntmps4
      go_wp2_with fail
      refine (rw_small a0 a1 (a2 % 20) B hs0 hs1 hB hc _).mono ?_
      rintro e w' ⟨rfl, hg⟩
      have A : Aside (Grown w w') := hg
      clear hg hc
      go_wp2
      go_ret
      exact ⟨rfl, (A.out.alloc _ _)⟩
  · have hc1 : B < a0 := by omega
    have hc2 : B < a1 := by omega
    clear hc
    go_enter Yba.func4, Yba.ntmps4
    go_wp2_with fail
    go_loop [9, 10, 11, 12, 13, 14, 15] (fun vx vy vp vq vr vt vk => ∃ x y p q r t : Int, ∃ k : Nat, vx = .int .u64 x ∧ vy = .int .u64 y ∧ vp = .int .u64 p ∧ vq = .int .u64 q ∧ vr = .int .u64 r ∧ vt = .int .u64 t ∧ vk = .int .i64 k ∧ it B k (st0 a0 a1) = ⟨x, y, p, q, r, t⟩ ∧ Inv a0 a1 B ⟨x, y, p, q, r, t⟩ ∧ x + y + k ≤ a0 + a1)
      (fun vx vy _ _ _ _ _ => (intOf vx + intOf vy).toNat)
    case atStart => exact ⟨a0, a1, 1, 0, 0, 1, 0, rfl, rfl, rfl, rfl, rfl, rfl, rfl, rfl, Inv.start hc1 hc2, by simp⟩
    case round =>
      obtain ⟨x, y, p, q, r, t, k, rfl, rfl, rfl, rfl, rfl, rfl, rfl, hit, hinv, hsum⟩ := hrel
      have hsz := hinv.sized (by omega)
      obtain ⟨p1, t1, xa, yb, pa, qa, rb, tb, _, _, _, _⟩ := hsz
      have q0 := hinv.q0
      have r0 := hinv.r0
      have hx := hinv.hx
      have hy := hinv.hy
      simp only at p1 t1 xa yb pa qa rb tb q0 r0 hx hy
      have hk : (k : Int) < 262144 := by omega
      have A : Aside (it B k (st0 a0 a1) = ⟨x, y, p, q, r, t⟩ ∧ Inv a0 a1 B ⟨x, y, p, q, r, t⟩) := ⟨hit, hinv⟩
      by_cases hyx : y ≤ x
      · by_cases hst : x - y ≤ B
        · have H : Aside (Stop B ⟨x, y, p, q, r, t⟩) := ⟨by simp only; omega, by simp only; omega⟩
          clear hit hinv
          go_wp2_with fail
          refine (rw_walk a0 a1 (a2 % 20) B w0 (by omega) w1 (by omega) hs0 hs1 hB hB1 hB2 hc1 hc2 _).mono ?_
          rintro e w' ⟨n, rfl, hst', hg⟩
          rw [same_end A.out.1 H.out hst']
          have G : Aside (Grown w w') := hg
          clear hst' hg
          simp only
          go_wp2
          go_ret
          exact ⟨rfl, G.out.alloc _ _⟩
        · have hstep : step1 B ⟨x, y, p, q, r, t⟩ = ⟨x - y, y, p, q + p, r, t + r⟩ := by
            unfold step1; dsimp only; rw [if_pos hyx, if_neg hst]
          have hinv' := hinv.step
          rw [hstep] at hinv'
          have hsz' := hinv'.sized (by omega)
          have e1 := hsz'.qa
          have e2 := hsz'.tb
          simp only at e1 e2
          have A2 : Aside (step1 B ⟨x, y, p, q, r, t⟩ = ⟨x - y, y, p, q + p, r, t + r⟩ ∧ Inv a0 a1 B ⟨x - y, y, p, q + p, r, t + r⟩) := ⟨hstep, hinv'⟩
          clear hit hinv hstep hinv' hsz'
          go_wp2
          go_round
          case rel =>
            refine ⟨x - y, y, p, q + p, r, t + r, k + 1, rfl, rfl, rfl, rfl, rfl, rfl, by go_num, ?_, A2.out.2, by omega⟩
            show step1 B (it B k (st0 a0 a1)) = _
            rw [A.out.1]; exact A2.out.1
          case measure => simp [intOf]; omega
      · by_cases hst : y - x ≤ B
        · have H : Aside (Stop B ⟨x, y, p, q, r, t⟩) := ⟨by simp only; omega, by simp only; omega⟩
          clear hit hinv
          go_wp2_with fail
          refine (rw_walk a0 a1 (a2 % 20) B w0 (by omega) w1 (by omega) hs0 hs1 hB hB1 hB2 hc1 hc2 _).mono ?_
          rintro e w' ⟨n, rfl, hst', hg⟩
          rw [same_end A.out.1 H.out hst']
          have G : Aside (Grown w w') := hg
          clear hst' hg
          simp only
          go_wp2
          go_ret
          exact ⟨rfl, G.out.alloc _ _⟩
        · have hstep : step1 B ⟨x, y, p, q, r, t⟩ = ⟨x, y - x, p + q, q, r + t, t⟩ := by
            unfold step1; dsimp only; rw [if_neg hyx, if_neg hst]
          have hinv' := hinv.step
          rw [hstep] at hinv'
          have hsz' := hinv'.sized (by omega)
          have e1 := hsz'.pa
          have e2 := hsz'.rb
          simp only at e1 e2
          have A2 : Aside (step1 B ⟨x, y, p, q, r, t⟩ = ⟨x, y - x, p + q, q, r + t, t⟩ ∧ Inv a0 a1 B ⟨x, y - x, p + q, q, r + t, t⟩) := ⟨hstep, hinv'⟩
          clear hit hinv hstep hinv' hsz'
          go_wp2
          go_round
          case rel =>
            refine ⟨x, y - x, p + q, q, r + t, t, k + 1, rfl, rfl, rfl, rfl, rfl, rfl, by go_num, ?_, A2.out.2, by omega⟩
            show step1 B (it B k (st0 a0 a1)) = _
            rw [A.out.1]; exact A2.out.1
          case measure => simp [intOf]; omega

/-! ### THE ROW's STEP: WRITTEN OUT: LEAVE IT -/
set_option maxRecDepth 100000 in
theorem lifted (os : Os) (started : os.Started) (H : Type) (enc : TypeId × Value → H) :
    ReturnsInHanded {} Yba.checked os 4 .any (Rows.lawS4029BModelSpec.pre6 enc Yba.prog Yba.f4 Rows.lawS4029BModelRow.domain false) (Rows.lawS4029BModelSpec.post enc Yba.prog Yba.f4 false true false false) := by
  refine returnsInHanded_of_change (C := Yba.checked) own started (by kernel_rfl) Yba.func4
    (ChangeSpec.witness6 (enc := enc) (C := Yba.checked) false ⟨#[], #[.int .u16 0, .int .u16 0, .int .u8 0], []⟩ 8 (by kernel_rfl) (by kernel_rfl) (by kernel_rfl) (by kernel_rfl)) ?_
  intro W base args ds gs before hval0 hW hcnd _
  have hval : ∀ (j : Nat) t v, Yba.f4.params[j]? = some t → args[j]? = some v → Value.okWide Yba.prog W .any base t v := hval0
  have hW' := hW
  obtain ⟨p, q, hA0, hV, rfl, hfz, hnd⟩ := hW
  have hA : DataW.TrodAll enc Yba.prog W 0 (fun _ => true) true Yba.f4.params.toList args.toList ds p := hA0
  rw [Yba.params4] at hA hval
  obtain ⟨v0, vs0, d0, ds0, p0, q0, hargs, rfl, rfl, h0, r0⟩ := trodAll_cons hA
  obtain ⟨v1, vs1, d1, ds1, p1, q1, rfl, rfl, rfl, h1, r1⟩ := trodAll_cons r0
  obtain ⟨v2, vs2, d2, ds2, p2, q2, rfl, rfl, rfl, h2, r2⟩ := trodAll_cons r1
  obtain ⟨rfl, rfl, rfl⟩ := trodAll_nil r2
  obtain rfl : args = #[v0, v1, v2] := by cases args; simp_all
  obtain ⟨rfl, rfl⟩ := trodVars_none hV
  obtain ⟨a0, rfl, rfl, rfl, w0⟩ := open_int Yba.underlying28 (hval 0 28 v0 rfl rfl) h0
  obtain ⟨a1, rfl, rfl, rfl, w1⟩ := open_int Yba.underlying28 (hval 1 28 v1 rfl rfl) h1
  obtain ⟨a2, rfl, rfl, rfl, w2⟩ := open_int Yba.underlying5 (hval 2 5 v2 rfl rfl) h2
  clear hA0 hval0
  simp only [List.append_nil] at hW'
  refine (walk a0 a1 a2 w0 w1 w2 W).mono fun e W' ⟨he, hg⟩ => ?_
  subst he
  exact ⟨_, rfl, post_of_same (pa := []) (pv := []) hW' (fun _ _ _ => (trodAll_cons_mk (shut_bool Yba.underlying4 _) trodAll_mk0)) (fun sp _ => (trodAll_cons_mk (shut_int Yba.underlying28 w0) (trodAll_cons_mk (shut_int Yba.underlying28 w1) (trodAll_cons_mk (shut_int Yba.underlying5 w2) trodAll_mk0)))) (fun _ _ => rfl) rfl
    (hg.frame _) hg.2.1 (ok_one (by kernel_rfl) rfl (okWide_bool_mk Yba.underlying4 _))⟩

theorem over : Rows.lawS4029BModelRow.holds Yba.pinned (OpenSpec.ofChange Rows.lawS4029BModelSpec) :=
  OpenClaim.holds_of_wide 4 Yba.f4 rfl rfl rfl rfl rfl rfl rfl ⟨rfl, rfl, rfl, rfl, rfl⟩ rfl rfl rfl rfl rfl (by kernel_rfl) Yba.func4 (by kernel_rfl)
    (of_decide_eq_true (by kernel_rfl)) (by unfold Func.isWrapper; first | (rw [if_pos (by decide +kernel)]; kernel_rfl) | (rw [if_neg (by decide +kernel)]; exact ⟨rfl, rfl⟩))
    (fun os started H enc _ => lifted os started H enc)

/-- ████ THE STATEMENT ████ -/
theorem proved : Rows.LawS4029BModelSaid :=
  over
#print axioms proved
end Go.Proofs.Ybulkcekm.lawS4029BModel
