/-
  THE PROOF OF 'Rows.LawS4037CInstallCardSaid': the row (the frame after the guide's worked examples Mapy and Median; the walk: YbulkceouDoorLaw), then the tied card by the builder's one call.
-/
import Derived.Test.YbulkceouDoorRows
import Derived.Test.YbulkceouDoorTie
import Derived.Test.YbulkceouDoorCards
import Derived.Test.YbulkceouDoorLaw
import Derived.ProofKit
import Derived.LaidMore
import Derived.OpenShut
import Derived.Stop.Joined
import Derived.Lib.LaidTab
import Derived.WalkSmall
import Derived.Deep.Slices
import Derived.SevenTiedAt
namespace Go.Proofs.YbulkceouDoor.lawS4037CInstall
open Go.ChangeShapes Go.WideShapes Go.ChangeAt Go.RowKit

theorem own : ownKnob Ybad.prog.godebug = none := by kernel_rfl
theorem laidOut : laidOutB Ybad.prog = true := by kernel_rfl
theorem gTab : Ybad.prog.globalNamed "math/bits.deBruijn64tab" = some 0 := by kernel_rfl
theorem tTab : (Ybad.prog.globals[0]?).map (·.type) = some 97 := by kernel_rfl
theorem gView : Ybad.prog.globalNamed "example.com/causeline/causeline.firstView" = some 1 := by kernel_rfl
theorem tView : (Ybad.prog.globals[1]?).map (·.type) = some 28 := by kernel_rfl
theorem c5 : Ybad.prog.cellsOf 5 = 1 := by kernel_rfl
theorem c97 : Ybad.prog.cellsOf 97 = 64 := by kernel_rfl
theorem c9 : Ybad.prog.cellsOf 9 = 1 := by kernel_rfl

/-- The table as the row lists it. -/
theorem tab_datum : (Rows.laid_math_bits_deBruijn64tab : DataW Unit) = Lib.tabData .u8 (Lib.deBruijn64tab.map fun n : Nat => (n : Int)) := by kernel_rfl

/-- WHAT THE CONDITION GIVES THE WALK: the table's cells. -/
theorem of_laid {W : World} (h : laidMetH Ybad.prog Rows.lawS4037CInstallRow.laid W) : TabAt 0 Lib.deBruijn64tab W := by
  rw [MakeChecks.laidMetH_plain _ _ _ (by kernel_rfl)] at h
  have h' : laidMet Ybad.prog (("math/bits.deBruijn64tab", Lib.tabData .u8 (Lib.deBruijn64tab.map fun n : Nat => (n : Int))) :: [("example.com/causeline/causeline.firstView", Rows.laid_example_com_causeline_causeline_firstView)]) W := by
    rw [← tab_datum]; exact h
  have ht := Lib.tabIs_of_head gTab tTab Ybad.underlying97 Ybad.underlying5 c5 c97 h'
  intro j hj
  rw [ht.cell gTab j (by simpa using hj)]
  simp [List.getD, List.getElem?_eq_getElem hj]

/-- The door's own heap meets the condition. -/
theorem door_met (os : Os) (args : Array Value) : laidMetH Ybad.prog Rows.lawS4037CInstallRow.laid ((World.doorLaid Ybad.prog 19 os).forCall (fun _ _ => 0) ⟨#[], args, []⟩).memory :=
  laidMetH_of_parts3 (fuel := 8) (laidMet_of_run' 8 (by kernel_rfl) (by kernel_rfl)) (by kernel_rfl) (by kernel_rfl)

section
variable {H : Type} {enc : TypeId × Value → H} {w : World} {spare : Nat → Bool} {held : Bool}

theorem cell_lt {w : World} {a : Addr} {v : Value} (h : w.cell? a = some v) : a.block < w.heap.size := by
  unfold World.cell? at h
  by_cases hb : a.block < w.heap.size
  · exact hb
  · have : w.heap[a.block]? = none := Array.getElem?_eq_none (by omega)
    simp [this] at h

/-- A slice of strings, as the walk is told of it. -/
theorem strs_of {fuel : Nat} {v : Value} {x : DataW H × List MemPlace} (h : DataW.trod enc Ybad.prog w 0 spare held fuel 22 [v] = some x) :
    ∃ (a : Option Addr) (l c : Nat) (ps : Nat → ByteArray), v = .slice a l c ∧ (l : Int) ≤ 9223372036854775807 ∧ ∀ j, j < l → ∃ bb oo, a = some ⟨bb, oo, none⟩ ∧ bb < w.heap.size ∧ w.cell? ⟨bb, oo + j, none⟩ = some (.string (ps j)) := by
  rcases Deep.open_slice1 Ybad.underlying22 c9 h with ⟨hcs, _⟩ | ⟨a, len, cap, m, n, V, D, Pl, hcs, _, hl, hm, hmm, _, hx⟩
  · obtain rfl : v = .slice none 0 0 := by simpa using hcs
    exact ⟨none, 0, 0, fun _ => ⟨#[]⟩, rfl, by decide, fun j hj => absurd hj (Nat.not_lt_zero _)⟩
  · obtain rfl : v = .slice (some a) len cap := by simpa using hcs
    refine ⟨some a, len, cap, fun j => match V j with | .string s => s | _ => ⟨#[]⟩, rfl, by unfold maxLen at hm; omega, fun j hj => ?_⟩
    obtain ⟨g1, _⟩ := hx 0 (by rw [hmm]; split <;> omega)
    obtain ⟨h1, h2⟩ := hx j (by rw [hmm]; split <;> omega)
    have hlt := cell_lt g1
    have hsp := World.cell?_spot g1
    obtain ⟨b, o, sp⟩ := a
    simp only [Addr.add, if_true] at hlt hsp
    subst hsp
    rw [Addr.add_mid] at h1
    obtain ⟨s, e, _, _⟩ := DataW.trod_string Ybad.underlying9 h2
    have e' : V j = .string s := by simpa using e
    refine ⟨b, o, rfl, hlt, ?_⟩
    rw [h1]
    dsimp only
    rw [e']
end

theorem nat_of {x : Int} (h : 0 ≤ x) : ∃ n : Nat, x = (n : Int) := ⟨x.toNat, (Int.toNat_of_nonneg h).symm⟩

set_option maxRecDepth 100000 in
theorem lifted (os : Os) (started : os.Started) (H : Type) (enc : TypeId × Value → H) :
    ReturnsInHanded {} Ybad.checked os 3 .any (fun w args => (Rows.lawS4037CInstallSpec.pre enc Ybad.prog Ybad.f3 [] false w args ∧ laidMetH Ybad.prog Rows.lawS4037CInstallRow.laid w) ∧ sizedMet enc Ybad.prog Ybad.f3 (OpenSpec.ofChange Rows.lawS4037CInstallSpec) false w args)
      (Rows.lawS4037CInstallSpec.post enc Ybad.prog Ybad.f3 false true false false) := by
  refine returnsInHanded_of_change_and (C := Ybad.checked) (X := fun w _ => laidMetH Ybad.prog Rows.lawS4037CInstallRow.laid w) (fun _ _ _ hh h => h.of_heap hh) own started (by kernel_rfl) Ybad.func3
    (ChangeSpec.witness_shaped (enc := enc) (C := Ybad.checked) (os := os) (X := fun w _ => laidMetH Ybad.prog Rows.lawS4037CInstallRow.laid w) false (World.doorLaid Ybad.prog 19 os) #[.slice none 0 0, .int .u8 0, .int .u64 0, .int .u64 0, .int .u64 0, .int .u64 0, .int .i64 0, .slice none 0 0] 8 rfl (World.shaped_of_RefB (by kernel_rfl) (by kernel_rfl)) (by kernel_rfl) (by kernel_rfl) (by kernel_rfl) (door_met os _)) ?_
  intro W base args ds gs before hval0 hW _ _ hL _
  have hval : ∀ (j : Nat) t v, Ybad.f3.params[j]? = some t → args[j]? = some v → Value.okWide Ybad.prog W .any base t v := hval0
  have hW' := hW
  obtain ⟨p, q, hA0, hV0, rfl, hfz, hnd⟩ := hW
  have hA : DataW.TrodAll enc Ybad.prog W 0 (fun _ => true) true Ybad.f3.params.toList args.toList ds p := hA0
  have hV : DataW.TrodVars enc Ybad.prog W (fun _ => true) ["example.com/causeline/causeline.firstView"] gs q := hV0
  rw [Ybad.params3] at hA hval
  obtain ⟨v0, vs0, d0, ds0, p0, q0, hargs, rfl, rfl, h0, r0⟩ := trodAll_cons hA
  obtain ⟨v1, vs1, d1, ds1, p1, q1, rfl, rfl, rfl, h1, r1⟩ := trodAll_cons r0
  obtain ⟨v2, vs2, d2, ds2, p2, q2, rfl, rfl, rfl, h2, r2⟩ := trodAll_cons r1
  obtain ⟨v3, vs3, d3, ds3, p3, q3, rfl, rfl, rfl, h3, r3⟩ := trodAll_cons r2
  obtain ⟨v4, vs4, d4, ds4, p4, q4, rfl, rfl, rfl, h4, r4⟩ := trodAll_cons r3
  obtain ⟨v5, vs5, d5, ds5, p5, q5, rfl, rfl, rfl, h5, r5⟩ := trodAll_cons r4
  obtain ⟨v6, vs6, d6, ds6, p6, q6, rfl, rfl, rfl, h6, r6⟩ := trodAll_cons r5
  obtain ⟨v7, vs7, d7, ds7, p7, q7, rfl, rfl, rfl, h7, r7⟩ := trodAll_cons r6
  obtain ⟨rfl, rfl, rfl⟩ := trodAll_nil r7
  obtain rfl : args = #[v0, v1, v2, v3, v4, v5, v6, v7] := by cases args; simp_all
  obtain ⟨g, t, cs, fuel, d, p', rfl, hg, ht, hvar, hd, rfl⟩ := trodVars_one hV
  obtain rfl := Option.some.inj (gView.symm.trans hg)
  obtain rfl := Option.some.inj (tView.symm.trans ht)
  have k0 := h0
  have k1 := h1
  have k2 := h2
  have k3 := h3
  have k4 := h4
  have k5 := h5
  have k6 := h6
  have k7 := h7
  have lt0 : ∀ x ∈ p0, x.block < W.heap.size := by obtain ⟨m, hm⟩ := k0; exact DataW.trod_lt m _ _ _ hm
  have lt1 : ∀ x ∈ p1, x.block < W.heap.size := by obtain ⟨m, hm⟩ := k1; exact DataW.trod_lt m _ _ _ hm
  have lt2 : ∀ x ∈ p2, x.block < W.heap.size := by obtain ⟨m, hm⟩ := k2; exact DataW.trod_lt m _ _ _ hm
  have lt3 : ∀ x ∈ p3, x.block < W.heap.size := by obtain ⟨m, hm⟩ := k3; exact DataW.trod_lt m _ _ _ hm
  have lt4 : ∀ x ∈ p4, x.block < W.heap.size := by obtain ⟨m, hm⟩ := k4; exact DataW.trod_lt m _ _ _ hm
  have lt5 : ∀ x ∈ p5, x.block < W.heap.size := by obtain ⟨m, hm⟩ := k5; exact DataW.trod_lt m _ _ _ hm
  have lt6 : ∀ x ∈ p6, x.block < W.heap.size := by obtain ⟨m, hm⟩ := k6; exact DataW.trod_lt m _ _ _ hm
  have lt7 : ∀ x ∈ p7, x.block < W.heap.size := by obtain ⟨m, hm⟩ := k7; exact DataW.trod_lt m _ _ _ hm
  obtain ⟨self, e1, _, _, w1⟩ := open_int Ybad.underlying5 (hval 1 5 v1 rfl rfl) h1
  obtain ⟨P, e2, _, _, w2⟩ := open_int Ybad.underlying23 (hval 2 23 v2 rfl rfl) h2
  obtain ⟨C, e3, _, _, w3⟩ := open_int Ybad.underlying23 (hval 3 23 v3 rfl rfl) h3
  obtain ⟨J, e4, _, _, w4⟩ := open_int Ybad.underlying23 (hval 4 23 v4 rfl rfl) h4
  obtain ⟨tn, e5, _, _, w5⟩ := open_int Ybad.underlying23 (hval 5 23 v5 rfl rfl) h5
  obtain ⟨tm, e6, _, _, w6⟩ := open_int Ybad.underlying3 (hval 6 3 v6 rfl rfl) h6
  obtain ⟨s0, s1⟩ := bounds_u8 w1
  obtain ⟨b20, b21⟩ := bounds_u64 w2
  obtain ⟨b30, b31⟩ := bounds_u64 w3
  obtain ⟨b40, b41⟩ := bounds_u64 w4
  obtain ⟨self, rfl⟩ := nat_of s0
  obtain ⟨P, rfl⟩ := nat_of b20
  obtain ⟨C, rfl⟩ := nat_of b30
  obtain ⟨J, rfl⟩ := nat_of b40
  obtain ⟨a0, l0, c0, nms, x0, hl0, hnames⟩ : ∃ (a : Option Addr) (l c : Nat) (ps : Nat → ByteArray), v0 = .slice a l c ∧ (l : Int) ≤ 9223372036854775807 ∧ ∀ j, j < l → ∃ bb oo, a = some ⟨bb, oo, none⟩ ∧ bb < W.heap.size ∧ W.cell? ⟨bb, oo + j, none⟩ = some (.string (ps j)) := by
    obtain ⟨a, l, c, hv⟩ := okWide_slice Ybad.underlying22 (hval 0 22 v0 rfl rfl)
    obtain ⟨fuel, hf⟩ := h0
    rw [hv] at hf ⊢
    exact strs_of hf
  obtain ⟨a7, l7, c7, ps, x7, hl7, hpre⟩ : ∃ (a : Option Addr) (l c : Nat) (ps : Nat → ByteArray), v7 = .slice a l c ∧ (l : Int) ≤ 9223372036854775807 ∧ ∀ j, j < l → ∃ bb oo, a = some ⟨bb, oo, none⟩ ∧ bb < W.heap.size ∧ W.cell? ⟨bb, oo + j, none⟩ = some (.string (ps j)) := by
    obtain ⟨a, l, c, hv⟩ := okWide_slice Ybad.underlying22 (hval 7 22 v7 rfl rfl)
    obtain ⟨fuel, hf⟩ := h7
    rw [hv] at hf ⊢
    exact strs_of hf
  subst e1 e2 e3 e4 e5 e6 x0 x7
  have hT := of_laid hL
  have hN0 : 0 < W.heap.size := cell_lt (hT 0 (by decide))
  have hN1 : 1 < W.heap.size := by
    unfold World.var? at hvar
    simp only [gView, Option.bind_some] at hvar
    by_cases hb : 1 < W.heap.size
    · exact hb
    · have : W.heap[1]? = none := Array.getElem?_eq_none (by omega)
      simp [this] at hvar
  have ltv : ∀ x ∈ p', x.block < W.heap.size := DataW.trod_lt fuel _ _ _ hd
  clear hA0 hval0 hV0
  refine (law_walk a0 l0 c0 self P C J tn tm nms ps a7 l7 c7 W (by omega) (by omega) (by omega) (by omega) hl0 hl7 hN0 hT hnames hpre).mono fun e W' ⟨he, bel⟩ => ?_
  subst he
  obtain ⟨fuel', hd'⟩ := Below.trod (v := .agg cs) laidOut (by kernel_rfl) (of_decide_eq_true (by kernel_rfl)) ⟨fuel, hd⟩ bel ltv
  exact ⟨_, rfl, _, _, _, [], _, _, hW', trodAll_mk1 (shut_bool Ybad.underlying4 _), (trodAll_cons_mk (Below.trod laidOut (by kernel_rfl) (of_decide_eq_true (by kernel_rfl)) k0 bel lt0) (trodAll_cons_mk (Below.trod laidOut (by kernel_rfl) (of_decide_eq_true (by kernel_rfl)) k1 bel lt1) (trodAll_cons_mk (Below.trod laidOut (by kernel_rfl) (of_decide_eq_true (by kernel_rfl)) k2 bel lt2) (trodAll_cons_mk (Below.trod laidOut (by kernel_rfl) (of_decide_eq_true (by kernel_rfl)) k3 bel lt3) (trodAll_cons_mk (Below.trod laidOut (by kernel_rfl) (of_decide_eq_true (by kernel_rfl)) k4 bel lt4) (trodAll_cons_mk (Below.trod laidOut (by kernel_rfl) (of_decide_eq_true (by kernel_rfl)) k5 bel lt5) (trodAll_cons_mk (Below.trod laidOut (by kernel_rfl) (of_decide_eq_true (by kernel_rfl)) k6 bel lt6) (trodAll_cons_mk (Below.trod laidOut (by kernel_rfl) (of_decide_eq_true (by kernel_rfl)) k7 bel lt7) trodAll_mk0)))))))), trodVars_mk1 hg ht (var?_below bel hg hN1 hvar) hd', bel.frame _, fun h => by cases h⟩

theorem over : Rows.LawS4037CInstallSaid :=
  OpenClaim.holds_of_wide 3 Ybad.f3 rfl rfl rfl rfl rfl rfl rfl ⟨rfl, rfl, rfl, rfl, rfl⟩ rfl rfl rfl rfl rfl (by kernel_rfl) Ybad.func3 (by kernel_rfl)
    (of_decide_eq_true (by kernel_rfl)) (by unfold Func.isWrapper; first | (rw [if_pos (by decide +kernel)]; kernel_rfl) | (rw [if_neg (by decide +kernel)]; exact ⟨rfl, rfl⟩))
    (fun os started H enc _ => lifted os started H enc)

/-- ████ THE STATEMENT ████ -/
theorem proved : Rows.LawS4037CInstallCardSaid :=
  Claim7.holds_tied_plain_at .later [] [.data, .data] true (true, "31d4a1dd021a040a945f2d46fe01a562e040cacfc7b118eabf2008ca31484a64") false
    over (fun _ h => by cases h) (by kernel_rfl) (fun _ h => by cases h) lawS4037CInstall_row_tie rfl ⟨rfl, rfl⟩ (by kernel_rfl) rfl
    (fun f fn hf hfn => by
      obtain rfl : f = 3 := Option.some.inj ((show Ybad.prog.funcNamed "example.com/causeline/causeline.LawS4037CInstall" = some 3 by kernel_rfl).symm.trans hf) |>.symm
      obtain rfl : fn = Ybad.f3 := (Option.some.inj (Ybad.func3.symm.trans hfn)).symm
      exact ⟨by kernel_rfl, fun j t ht => by
        rw [Ybad.params3] at ht
        have hm : t ∈ [22, 5, 23, 23, 23, 23, 3, 22] := by simpa using Array.mem_of_getElem? ht
        have hall : ([22, 5, 23, 23, 23, 23, 3, 22].all fun u => !Ybad.prog.wantsStandIn u) = true := by kernel_rfl
        exact (show Ybad.prog.wantsStandIn t = false by simpa using List.all_eq_true.1 hall t hm)⟩)
    (by kernel_rfl)
#print axioms proved
end Go.Proofs.YbulkceouDoor.lawS4037CInstall
