/-
  LawS4030CPieces: THE WALK, whole (seat b4030aZD).
-/
import Derived.Test.YbulkcelaGreatDoorLawE
namespace Go.Proofs.YbulkcelaGreatDoor
open Go.RowKit Go.MapKept Go.Lib Go.Shelf Go.Maps Go.Sort

set_option linter.unusedSimpArgs false in
set_option maxRecDepth 100000 in
set_option maxHeartbeats 4000000 in
theorem law_walk (a0 a1 : Option Addr) (n cap0 len cap1 : Nat) (f d sp : Int) (M Mc : Nat → Nat) (C0 s e : Nat → Int) (w : World) (hR0 : ArgR w w.heap.size a0 n M C0) (hC0 : ArgC w w.heap.size a1 len Mc s e) (hm0 : (n : Int) ≤ 9223372036854775807) (hm1 : (len : Int) ≤ 9223372036854775807) (hf : -32768 ≤ f ∧ f ≤ 32767) (hd : 0 ≤ d ∧ d ≤ 65535) (hsp : 0 ≤ sp ∧ sp ≤ 65535) :
    Calls Ybaz.prog 3 #[.slice a0 n cap0, .slice a1 len cap1, .int .i16 f, .int .u16 d, .int .u16 sp] w fun e w' => e = .returned (.bool true) ∧ RowKit.Below w.heap.size w w' := by
  obtain ⟨C, hCd⟩ : ∃ C : Nat → Int, C = fun j => if j < n then C0 j else 0 := ⟨_, rfl⟩
  have hR : ArgR w w.heap.size a0 n M C := fun i hi => by
    have h := hR0 i hi
    have hc : C i = C0 i := by rw [hCd]; simp [hi]
    rw [hc]
    exact h
  have hCb : ∀ j, (C j).natAbs ≤ 2147483648 := fun j => by
    by_cases hj : j < n
    · obtain ⟨_, _, _, _, _, _, _, h1, h2⟩ := hR j hj
      omega
    · have hc : C j = 0 := by rw [hCd]; simp [hj]
      rw [hc]; decide
  have hA : Aside (ArgR w w.heap.size a0 n M C ∧ ArgC w w.heap.size a1 len Mc s e ∧ ∀ j, (C j).natAbs ≤ 2147483648) := ⟨hR, hC0, hCb⟩
  clear hR0 hC0 hR hCb hCd
  by_cases h0 : n ≤ 300
  · have h0' : (n : Int) ≤ 300 := by omega
    by_cases h1 : len ≤ 300
    · have h1' : (len : Int) ≤ 300 := by omega
      go_enter Ybaz.func3, Ybaz.ntmps3
      refine wp_seq_k fun Ka hKa => ?_
      have hKa' : Aside (∀ (a : Act) (w : World), _ → Ka a w) := hKa
      clear hKa
      go_wp2
      refine hKa'.out _ _ ?_
      clear hKa'
      refine wp_seq_k fun Kb hKb => ?_
      have hKb' : Aside (∀ (a : Act) (w : World), _ → Kb a w) := hKb
      clear hKb
      go_wp2
      refine hKb'.out _ _ ?_
      clear hKb'
      obtain ⟨hR, hC0, hCb⟩ := hA.out
      refine law_A a0 a1 n cap0 len cap1 f d sp Mc s e w h1 hC0 _ (fun tb ab N wB hL1 => ?_) _ _ _ _ _ _ _ _ _ _ _ _ _ _ _ _ _ _ _ _ _ _ _ _ _ _ _ _ _ _ _ _ _ _ _ _ _ _ _ _ _ _ _ _ _ _ _ _ _ _ _ _ _ _ _ _ _ _ _ _ _ _ _ _ _ _ _ _ _ _ _ _ _ _ _ _ _ _ _ _ _ _ _ _ _ _ _ _ _ _ _ _ _ _ _ _ _ _ _ _ _ _ _ _ _ _ _ _ _ _ _ _ _ _ _ _ _ _ _ _ _ _ _ _ _ _ _ _ _ _ _ _ _ _ _ _ _ _ _ _ _ _ _ _ _ _ _ _ _ _ _ _ _ _ _ _ _ _ _ _ _ _ _ _ _ _ _ _ _ _ _ _ _ _ _ _ _ _ _ _ _ _ _ _ _ _ _ _ _ _ _ _ _ _ _ _ _ _ _ _ _ _ _ _ _ _ _ _ _ _ _ _ _ _ _ _ _ _ _ _ _ _ _ _ _ _ _ _ _ _ _ _ _ _ _ _ _ _ _ _ _ _ _ _ _ _ _ _ _ _ _ _ _ _ _ _ _ _ _ _ _ _ _ _ _ _ _ _ _ _ _ _ _ _ _ _ _ _ _ _ _ _ _ _ _ _ _ _ _ _ _ _ _ _ _ _ _ _ _ _ _ _ _ _ _ _ _ _ _ _ _ _ _ _ _ _ _ _ _ _ _ _
      intros
      refine law_B a0 a1 n cap0 len cap1 tb ab N f d sp (fun i => Mc i % 3) M (fun i => 100000 + s i) (fun i => 100000 + e i) C w wB h0 hR hCb hL1 _ (fun kv cv wr hL2 => ?_) _ _ _ _ _ _ _ _ _ _ _ _ _ _ _ _ _ _ _ _ _ _ _ _ _ _ _ _ _ _ _ _ _ _ _ _ _ _ _ _ _ _ _ _ _ _ _ _ _ _ _ _ _ _ _ _ _ _ _ _ _ _ _ _ _ _ _ _ _ _ _ _ _ _ _ _ _ _ _ _ _ _ _ _ _ _ _ _ _ _ _ _ _ _ _ _ _ _ _ _ _ _ _ _ _ _ _ _ _ _ _ _ _ _ _ _ _ _ _ _ _ _ _ _ _ _ _ _ _ _ _ _ _ _ _ _ _ _ _ _ _ _ _ _ _ _ _ _ _ _ _ _ _ _ _ _ _ _ _ _ _ _ _ _ _ _ _ _ _ _ _ _ _ _ _ _ _ _ _ _ _ _ _ _ _ _ _ _ _ _ _ _ _ _ _ _ _ _ _ _ _ _ _ _ _ _ _ _ _ _ _ _ _ _ _ _ _ _ _ _ _ _ _ _ _ _ _ _ _ _ _ _ _ _ _ _ _ _ _ _ _ _ _ _ _ _ _ _ _ _ _ _ _ _ _ _ _ _ _ _ _ _ _ _ _ _ _ _ _ _ _ _ _ _ _ _ _ _ _ _ _ _ _ _ _ _ _ _ _ _ _ _ _ _ _ _ _ _ _ _ _ _ _ _ _ _ _ _ _ _ _ _ _ _ _ _ _ _ _
      intros
      refine law_D a0 a1 n cap0 len cap1 tb ab N f d sp (fun i => Mc i % 3) (fun i => 100000 + s i) (fun i => 100000 + e i) (keyR (fun i => Mc i % 3) len M) C kv cv w wB wr h0 h1 hf hd hsp (fun j hj => ?_) (fun i => keyR_bd _ _ _ i) hCb hL1 hL2 _ (fun ub kd vs pv wE hLE => ?_) _ _ _ _ _ _ _ _ _ _ _ _ _ _ _ _ _ _ _ _ _ _ _ _ _ _ _ _ _ _ _ _ _ _ _ _ _ _ _ _ _ _ _ _ _ _ _ _ _ _ _ _ _ _ _ _ _ _ _ _ _ _ _ _ _ _ _ _ _ _ _ _ _ _ _ _ _ _ _ _ _ _ _ _ _ _ _ _ _ _ _ _ _ _ _ _ _ _ _ _ _ _ _ _ _ _ _ _ _ _ _ _ _ _ _ _ _ _ _ _ _ _ _ _ _ _ _ _ _ _ _ _ _ _ _ _ _ _ _ _ _ _ _ _ _ _ _ _ _ _ _ _ _ _ _ _ _ _ _ _ _ _ _ _ _ _ _ _ _ _ _ _ _ _ _ _ _ _ _ _ _ _ _ _ _ _ _ _ _ _ _ _ _ _ _ _ _ _ _ _ _ _ _ _ _ _ _ _ _ _ _ _ _ _ _ _ _ _ _ _ _ _ _ _ _ _ _ _ _ _ _ _ _ _ _ _ _ _ _ _ _ _ _ _ _ _ _ _ _ _ _ _ _ _ _ _ _ _ _ _ _ _ _ _ _ _ _ _ _ _ _ _ _ _ _ _ _ _ _ _ _ _ _ _ _ _ _ _ _ _ _ _ _ _ _ _ _ _ _ _ _ _ _ _ _ _ _ _ _ _ _ _ _ _ _ _
      · obtain ⟨_, _, _, _, _, _, _, _, b1, b2⟩ := hC0 j hj
        omega
      · intros
        have hlk := hist_le (keyR (fun i => Mc i % 3) len M) C n
        refine law_E a1 len cap1 tb ub kd Mc (fun i => Mc i % 3) s e (hist (keyR (fun i => Mc i % 3) len M) C n).1 (hist (keyR (fun i => Mc i % 3) len M) C n).2 vs kv cv pv f (f + 1 + d) (sp + 1) w wE (fun _ => rfl) h1 hC0 (hist_mem _ C (fun x => -1 ≤ x ∧ x ≤ 2) (fun i => keyR_bd _ _ _ i) n) (by omega) (hist_len _ C n) (fun z hz => ?_) hLE hf (by omega) (by omega) (by omega) (by omega) _ (fun w' hb => ⟨rfl, hb⟩) _ _ _ _ _ _ _ _ _ _ _ _ _ _ _ _ _ _ _ _ _ _ _ _ _ _ _ _ _ _ _ _ _ _ _ _ _ _ _ _ _ _ _ _ _ _ _ _ _ _ _ _ _ _ _ _ _ _ _ _ _ _ _ _ _ _ _ _ _ _ _ _ _ _ _ _ _ _ _ _ _ _ _ _ _ _ _ _ _ _ _ _ _ _ _ _ _ _ _ _ _ _ _ _ _ _ _ _ _ _ _ _ _ _ _ _ _ _ _ _ _ _ _ _ _ _ _ _ _ _ _ _ _ _ _ _ _ _ _ _ _ _ _ _ _ _ _ _ _ _ _ _ _ _ _ _ _ _ _ _ _ _ _ _ _ _ _ _ _ _ _ _ _ _ _ _ _ _ _ _ _ _ _ _ _ _ _ _ _ _ _ _ _ _ _ _ _ _ _ _ _ _ _ _ _ _ _ _ _ _ _ _ _ _ _ _ _ _ _ _ _ _ _ _ _ _ _ _ _ _ _ _ _ _ _ _ _ _ _ _ _ _ _ _ _ _ _ _ _ _ _ _ _ _ _ _ _ _ _ _ _ _ _ _ _ _ _ _ _ _ _ _ _ _ _ _ _ _ _ _ _ _ _ _ _ _ _ _ _ _ _ _ _ _ _ _ _ _ _ _ _ _ _ _ _ _ _ _ _ _ _ _ _ _ _ _ _ _ _
        have q1 := hist_small (keyR (fun i => Mc i % 3) len M) C 2147483648 hCb n z hz
        have q2 : n * 2147483648 ≤ 300 * 2147483648 := Nat.mul_le_mul_right _ h0
        omega
    · have h1' : (300 : Int) < (len : Int) := by omega
      go_enter Ybaz.func3, Ybaz.ntmps3
      go_wp2
      go_ret
      exact ⟨rfl, RowKit.Below.refl _ _⟩
  · have h0' : (300 : Int) < (n : Int) := by omega
    go_enter Ybaz.func3, Ybaz.ntmps3
    go_wp2
    go_ret
    exact ⟨rfl, RowKit.Below.refl _ _⟩
end Go.Proofs.YbulkcelaGreatDoor
