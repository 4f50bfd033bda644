/-
  (*peer).changesFor (seat b4037a).
-/
import Derived.Test.YbulkceouRows
import Derived.WalkKit
import Derived.WalkSpells
import Derived.WalkLawsBesides
import Derived.Outline
import Derived.Deep.QuietTactic
import Derived.BigQuiet
import Derived.Deep.LoopGhost
import Derived.Laws.Pointers
import Derived.Lib.SmallJoins
namespace Go.Proofs.Ybulkceou
open Go.RowKit

theorem Yba.info25 : (Yba.prog.info? 25).map (fun i => (i.zero, i.size, i.bytes)) = some (some (.pointer none), 1, 8) := by kernel_rfl

/-- A view change's pointer: nil, or to block q. -/
def ap : Option Nat → Option Addr
  | none => none
  | some q => some ⟨q, 0, none⟩

def vp (q : Option Nat) : Value := .pointer (ap q)

/-- The first of what changesFor picks. -/
def pk1 (jq : Option Nat) (jl : Bool) (eq : Option Nat) (el : Bool) : List (Option Nat) :=
  if jq.isSome && jl then [jq] else if eq.isSome && el then [eq] else []

/-- What changesFor picks. -/
def picks (jq : Option Nat) (jl : Bool) (eq : Option Nat) (el : Bool) (fq : Option Nat) : List (Option Nat) :=
  (if jq.isSome && jl then [jq] else if eq.isSome && el then [eq] else []) ++ (if fq.isSome then [fq] else [])

theorem bcell {W w1 : World} (hb : Below W.heap.size W w1) : (∀ b o, b < W.heap.size → w1.cell? ⟨b, o, none⟩ = W.cell? ⟨b, o, none⟩) ∧ (∀ b o, b < W.heap.size → w1.frozen? ⟨b, o, none⟩ = W.frozen? ⟨b, o, none⟩) :=
  ⟨fun b o h => hb.cell (p := ⟨b, o, none⟩) h, fun b o h => hb.frozen (p := ⟨b, o, none⟩) h⟩

theorem below_drewN (B : Nat) (w : World) (n : Nat) : Below B w (w.drewN n) := ⟨rfl, rfl, rfl, Nat.le_refl _, fun _ _ => rfl⟩

theorem picks_eq (jq : Option Nat) (jl : Bool) (eq : Option Nat) (el : Bool) (fq : Option Nat) : picks jq jl eq el fq = pk1 jq jl eq el ++ (if fq.isSome then [fq] else []) := rfl

/-- The memory that changesFor reads. -/
structure Mem (w : World) (Q M k : Nat) (jq eq fq : Option Nat) (o jt pin : Int) : Prop where
  q : Q < w.heap.size
  m : M < w.heap.size
  c5 : w.cell? ⟨Q, 5, none⟩ = some (.slice (some ⟨M, 0, none⟩) 3 3)
  cj : w.cell? ⟨M, k * 29 + 27, none⟩ = some (vp jq)
  co : w.cell? ⟨M, k * 29 + 18, none⟩ = some (.int .u64 o)
  ct : ∀ b, jq = some b → b < w.heap.size ∧ w.cell? ⟨b, 2, none⟩ = some (.int .u64 jt)
  ce : w.cell? ⟨Q, 23, none⟩ = some (vp eq)
  cf : w.cell? ⟨Q, 24, none⟩ = some (vp fq)
  cp : w.cell? ⟨Q, 19, none⟩ = some (.int .u64 pin)

theorem Mem.kept {w w' : World} {Q M k : Nat} {jq eq fq : Option Nat} {o jt pin : Int} (h : Mem w Q M k jq eq fq o jt pin) (hb : Below w.heap.size w w') : Mem w' Q M k jq eq fq o jt pin := by
  obtain ⟨q, m, c5, cj, co, ct, ce, cf, cp⟩ := h
  have hs := hb.size
  obtain ⟨hc, _⟩ := bcell hb
  refine ⟨by omega, by omega, (hc _ _ q).trans c5, (hc _ _ m).trans cj, (hc _ _ m).trans co, fun b e => ?_, (hc _ _ q).trans ce, (hc _ _ q).trans cf, (hc _ _ q).trans cp⟩
  obtain ⟨h1, h2⟩ := ct b e
  exact ⟨by omega, (hc _ _ h1).trans h2⟩

theorem own_base {w : World} {base : Nat} {e : TypeId} {size : Nat} {v : Value} {n : Nat} {xs : List Value} (h : w.ownsRow base e size v n xs) {g : Nat} (hg : v.ownBlock = some g) : base ≤ g := by
  rcases h.2 with ⟨rfl, _⟩ | ⟨g', cap, cur, rfl, hb, hh, _⟩
  · simp [Value.ownBlock] at hg
  · simp [Value.ownBlock] at hg
    subst hg
    exact hb

set_option maxRecDepth 100000 in
set_option maxHeartbeats 1000000 in
theorem changes_j (Q M k b : Nat) (eq fq : Option Nat) (o jt pin : Int) (hk : k < 3) (w : World) (h : Mem w Q M k (some b) eq fq o jt pin) (hlt : o < jt) :
    Calls Yba.prog 4 #[.pointer (some ⟨Q, 0, none⟩), .int .i64 k] w fun e w' => ∃ v, e = .returned v ∧ w'.ownsRow w.heap.size 25 1 v (1 + if fq.isSome then 1 else 0) ([vp (some b)] ++ if fq.isSome then [vp fq] else []) ∧ Below w.heap.size w w' := by
  obtain ⟨i0, hi, hz0, hz1, hz2⟩ := info_parts Yba.info25
  obtain ⟨q, m, c5, cj, co, ct, ce, cf, cp⟩ := h
  obtain ⟨hbl, ct⟩ := ct b rfl
  simp only [vp, ap] at cj
  go_enter Yba.func4, Yba.ntmps4
  go_wp2
  go_quiet (fail)
  go_wp2_with (at_builtin; refine wpList_append_own _ rfl (.tmp 38) (.tmp 44) 65 rfl w.heap.size 25 i0 (.pointer none) 1 8 Yba.underlying65 hi hz0 hz1 hz2 rfl (by decide) _ _ _ rfl (World.ownsRow_nil _ _ _ _) ⟨w.heap.size, 0, none⟩ 1 1 [.pointer (some ⟨b, 0, none⟩)] rfl rfl ?c1 ?c2 ?c3 ?c4 ?c5 ?_)
  case c1 => exact cell_one_new _ _ _
  case c2 => intro u hu; simp at hu; subst hu; rfl
  case c3 => decide
  case c4 => decide
  case c5 => simp
  intro v' w1 hown hgrow _
  have hb1 : Below w.heap.size w w1 := (((below_drewN w.heap.size w _).alloc (by simp) _).grown hgrow (by simp) (fun k h => by simp [Value.ownBlock] at h))
  obtain ⟨hc, _⟩ := bcell hb1
  have hsz := hb1.size
  obtain ⟨g, cp1, hv⟩ := Joins.ownsRow_form hown (by omega)
  have cf1 := (hc _ _ q).trans cf
  have Hb1 : Aside (Below w.heap.size w w1) := hb1
  have Hown : Aside (w1.ownsRow w.heap.size 25 1 v' (0 + 1) ([] ++ [.pointer (some ⟨b, 0, none⟩)])) := hown
  clear hown hgrow hb1 hc c5 cj co ce cf cp
  rw [hv]
  rw [hv] at Hown
  clear hv
  cases fq with
  | none =>
    simp only [vp, ap] at cf1
    go_wp2
    go_ret
    exact ⟨_, rfl, Hown.out, Hb1.out⟩
  | some f =>
    simp only [vp, ap] at cf1
    go_wp2_with (at_builtin; refine wpList_append_own _ rfl (.tmp 82) (.tmp 88) 65 rfl w.heap.size 25 i0 (.pointer none) 1 8 Yba.underlying65 hi hz0 hz1 hz2 rfl (by decide) _ _ _ rfl (World.ownsRow.alloc Hown.out _) ⟨w1.heap.size, 0, none⟩ 1 1 [.pointer (some ⟨f, 0, none⟩)] rfl rfl ?d1 ?d2 ?d3 ?d4 ?d5 ?_)
    case d1 => exact cell_one_new _ _ _
    case d2 => intro u hu; simp at hu; subst hu; rfl
    case d3 => decide
    case d4 => decide
    case d5 => simp; omega
    intro v2 w2 hown2 hgrow2 _
    have R : Aside (w2.ownsRow w.heap.size 25 1 v2 (0 + 1 + 1) ([] ++ [.pointer (some ⟨b, 0, none⟩)] ++ [.pointer (some ⟨f, 0, none⟩)]) ∧ Below w.heap.size w w2) :=
      ⟨hown2, (Hb1.out.alloc (by omega) _).grown hgrow2 (by simp; omega) (fun k h => own_base Hown.out h)⟩
    clear hown2 hgrow2
    go_wp2
    go_ret
    exact ⟨_, rfl, R.out.1, R.out.2⟩

set_option maxRecDepth 100000 in
set_option maxHeartbeats 1000000 in
theorem changes_ea (Q M k eb : Nat) (fq : Option Nat) (o jt pin : Int) (hk : k < 3) (w : World) (h : Mem w Q M k none (some eb) fq o jt pin) (hel : o < pin) :
    Calls Yba.prog 4 #[.pointer (some ⟨Q, 0, none⟩), .int .i64 k] w fun e w' => ∃ v, e = .returned v ∧ w'.ownsRow w.heap.size 25 1 v (1 + if fq.isSome then 1 else 0) ([vp (some eb)] ++ if fq.isSome then [vp fq] else []) ∧ Below w.heap.size w w' := by
  obtain ⟨i0, hi, hz0, hz1, hz2⟩ := info_parts Yba.info25
  obtain ⟨q, m, c5, cj, co, ct, ce, cf, cp⟩ := h
  clear ct
  simp only [vp, ap] at cj
  simp only [vp, ap] at ce
  go_enter Yba.func4, Yba.ntmps4
  go_wp2
  go_quiet (fail)
  go_wp2
  go_quiet (fail)
  go_wp2_with (at_builtin; refine wpList_append_own _ rfl (.tmp 68) (.tmp 74) 65 rfl w.heap.size 25 i0 (.pointer none) 1 8 Yba.underlying65 hi hz0 hz1 hz2 rfl (by decide) _ _ _ rfl (World.ownsRow_nil _ _ _ _) ⟨w.heap.size, 0, none⟩ 1 1 [.pointer (some ⟨eb, 0, none⟩)] rfl rfl ?c1 ?c2 ?c3 ?c4 ?c5 ?_)
  case c1 => exact cell_one_new _ _ _
  case c2 => intro u hu; simp at hu; subst hu; rfl
  case c3 => decide
  case c4 => decide
  case c5 => simp
  intro v' w1 hown hgrow _
  have hb1 : Below w.heap.size w w1 := (((below_drewN w.heap.size w _).alloc (by simp) _).grown hgrow (by simp) (fun k h => by simp [Value.ownBlock] at h))
  obtain ⟨hc, _⟩ := bcell hb1
  have hsz := hb1.size
  obtain ⟨g, cp1, hv⟩ := Joins.ownsRow_form hown (by omega)
  have cf1 := (hc _ _ q).trans cf
  have Hb1 : Aside (Below w.heap.size w w1) := hb1
  have Hown : Aside (w1.ownsRow w.heap.size 25 1 v' (0 + 1) ([] ++ [.pointer (some ⟨eb, 0, none⟩)])) := hown
  clear hown hgrow hb1 hc c5 cj co ce cf cp
  rw [hv]
  rw [hv] at Hown
  clear hv
  cases fq with
  | none =>
    simp only [vp, ap] at cf1
    go_wp2
    go_ret
    exact ⟨_, rfl, Hown.out, Hb1.out⟩
  | some f =>
    simp only [vp, ap] at cf1
    go_wp2_with (at_builtin; refine wpList_append_own _ rfl (.tmp 82) (.tmp 88) 65 rfl w.heap.size 25 i0 (.pointer none) 1 8 Yba.underlying65 hi hz0 hz1 hz2 rfl (by decide) _ _ _ rfl (World.ownsRow.alloc Hown.out _) ⟨w1.heap.size, 0, none⟩ 1 1 [.pointer (some ⟨f, 0, none⟩)] rfl rfl ?d1 ?d2 ?d3 ?d4 ?d5 ?_)
    case d1 => exact cell_one_new _ _ _
    case d2 => intro u hu; simp at hu; subst hu; rfl
    case d3 => decide
    case d4 => decide
    case d5 => simp; omega
    intro v2 w2 hown2 hgrow2 _
    have R : Aside (w2.ownsRow w.heap.size 25 1 v2 (0 + 1 + 1) ([] ++ [.pointer (some ⟨eb, 0, none⟩)] ++ [.pointer (some ⟨f, 0, none⟩)]) ∧ Below w.heap.size w w2) :=
      ⟨hown2, (Hb1.out.alloc (by omega) _).grown hgrow2 (by simp; omega) (fun k h => own_base Hown.out h)⟩
    clear hown2 hgrow2
    go_wp2
    go_ret
    exact ⟨_, rfl, R.out.1, R.out.2⟩

set_option maxRecDepth 100000 in
set_option maxHeartbeats 1000000 in
theorem changes_naa (Q M k : Nat) (fq : Option Nat) (o jt pin : Int) (hk : k < 3) (w : World) (h : Mem w Q M k none none fq o jt pin) :
    Calls Yba.prog 4 #[.pointer (some ⟨Q, 0, none⟩), .int .i64 k] w fun e w' => ∃ v, e = .returned v ∧ w'.ownsRow w.heap.size 25 1 v (0 + if fq.isSome then 1 else 0) (([] : List Value) ++ if fq.isSome then [vp fq] else []) ∧ Below w.heap.size w w' := by
  obtain ⟨i0, hi, hz0, hz1, hz2⟩ := info_parts Yba.info25
  obtain ⟨q, m, c5, cj, co, ct, ce, cf, cp⟩ := h
  clear ct
  simp only [vp, ap] at cj
  simp only [vp, ap] at ce
  cases fq with
  | none =>
    simp only [vp, ap] at cf
    go_enter Yba.func4, Yba.ntmps4
    go_wp2
    go_quiet (fail)
    go_wp2
    go_quiet (fail)
    go_wp2
    go_ret
    exact ⟨_, rfl, World.ownsRow_nil _ _ _ _, below_drewN _ _ _⟩
  | some f =>
    simp only [vp, ap] at cf
    go_enter Yba.func4, Yba.ntmps4
    go_wp2
    go_quiet (fail)
    go_wp2
    go_quiet (fail)
    go_wp2_with (at_builtin; refine wpList_append_own _ rfl (.tmp 82) (.tmp 88) 65 rfl w.heap.size 25 i0 (.pointer none) 1 8 Yba.underlying65 hi hz0 hz1 hz2 rfl (by decide) _ _ _ rfl (World.ownsRow_nil _ _ _ _) ⟨w.heap.size, 0, none⟩ 1 1 [.pointer (some ⟨f, 0, none⟩)] rfl rfl ?c1 ?c2 ?c3 ?c4 ?c5 ?_)
    case c1 => exact cell_one_new _ _ _
    case c2 => intro u hu; simp at hu; subst hu; rfl
    case c3 => decide
    case c4 => decide
    case c5 => simp
    intro v' w1 hown hgrow _
    have hb1 : Below w.heap.size w w1 := (((below_drewN w.heap.size w _).alloc (by simp) _).grown hgrow (by simp) (fun k h => by simp [Value.ownBlock] at h))
    have R : Aside (w1.ownsRow w.heap.size 25 1 v' (0 + 1) ([] ++ [.pointer (some ⟨f, 0, none⟩)]) ∧ Below w.heap.size w w1) := ⟨hown, hb1⟩
    clear hown hgrow hb1
    go_wp2
    go_ret
    exact ⟨_, rfl, R.out.1, R.out.2⟩

set_option maxRecDepth 100000 in
set_option maxHeartbeats 1000000 in
theorem changes_nab (Q M k : Nat) (eb : Nat) (fq : Option Nat) (o jt pin : Int) (hk : k < 3) (w : World) (h : Mem w Q M k none (some eb) fq o jt pin) (hel : ¬ o < pin) :
    Calls Yba.prog 4 #[.pointer (some ⟨Q, 0, none⟩), .int .i64 k] w fun e w' => ∃ v, e = .returned v ∧ w'.ownsRow w.heap.size 25 1 v (0 + if fq.isSome then 1 else 0) (([] : List Value) ++ if fq.isSome then [vp fq] else []) ∧ Below w.heap.size w w' := by
  obtain ⟨i0, hi, hz0, hz1, hz2⟩ := info_parts Yba.info25
  obtain ⟨q, m, c5, cj, co, ct, ce, cf, cp⟩ := h
  clear ct
  simp only [vp, ap] at cj
  simp only [vp, ap] at ce
  cases fq with
  | none =>
    simp only [vp, ap] at cf
    go_enter Yba.func4, Yba.ntmps4
    go_wp2
    go_quiet (fail)
    go_wp2
    go_quiet (fail)
    go_wp2
    go_ret
    exact ⟨_, rfl, World.ownsRow_nil _ _ _ _, below_drewN _ _ _⟩
  | some f =>
    simp only [vp, ap] at cf
    go_enter Yba.func4, Yba.ntmps4
    go_wp2
    go_quiet (fail)
    go_wp2
    go_quiet (fail)
    go_wp2_with (at_builtin; refine wpList_append_own _ rfl (.tmp 82) (.tmp 88) 65 rfl w.heap.size 25 i0 (.pointer none) 1 8 Yba.underlying65 hi hz0 hz1 hz2 rfl (by decide) _ _ _ rfl (World.ownsRow_nil _ _ _ _) ⟨w.heap.size, 0, none⟩ 1 1 [.pointer (some ⟨f, 0, none⟩)] rfl rfl ?c1 ?c2 ?c3 ?c4 ?c5 ?_)
    case c1 => exact cell_one_new _ _ _
    case c2 => intro u hu; simp at hu; subst hu; rfl
    case c3 => decide
    case c4 => decide
    case c5 => simp
    intro v' w1 hown hgrow _
    have hb1 : Below w.heap.size w w1 := (((below_drewN w.heap.size w _).alloc (by simp) _).grown hgrow (by simp) (fun k h => by simp [Value.ownBlock] at h))
    have R : Aside (w1.ownsRow w.heap.size 25 1 v' (0 + 1) ([] ++ [.pointer (some ⟨f, 0, none⟩)]) ∧ Below w.heap.size w w1) := ⟨hown, hb1⟩
    clear hown hgrow hb1
    go_wp2
    go_ret
    exact ⟨_, rfl, R.out.1, R.out.2⟩

set_option maxRecDepth 100000 in
set_option maxHeartbeats 1000000 in
theorem changes_eb (Q M k eb : Nat) (b : Nat) (fq : Option Nat) (o jt pin : Int) (hk : k < 3) (w : World) (h : Mem w Q M k (some b) (some eb) fq o jt pin) (hlt : ¬ o < jt) (hel : o < pin) :
    Calls Yba.prog 4 #[.pointer (some ⟨Q, 0, none⟩), .int .i64 k] w fun e w' => ∃ v, e = .returned v ∧ w'.ownsRow w.heap.size 25 1 v (1 + if fq.isSome then 1 else 0) ([vp (some eb)] ++ if fq.isSome then [vp fq] else []) ∧ Below w.heap.size w w' := by
  obtain ⟨i0, hi, hz0, hz1, hz2⟩ := info_parts Yba.info25
  obtain ⟨q, m, c5, cj, co, ct, ce, cf, cp⟩ := h
  obtain ⟨hbl, ct⟩ := ct b rfl
  simp only [vp, ap] at cj
  simp only [vp, ap] at ce
  go_enter Yba.func4, Yba.ntmps4
  go_wp2
  go_quiet (fail)
  go_wp2
  go_quiet (fail)
  go_wp2_with (at_builtin; refine wpList_append_own _ rfl (.tmp 68) (.tmp 74) 65 rfl w.heap.size 25 i0 (.pointer none) 1 8 Yba.underlying65 hi hz0 hz1 hz2 rfl (by decide) _ _ _ rfl (World.ownsRow_nil _ _ _ _) ⟨w.heap.size, 0, none⟩ 1 1 [.pointer (some ⟨eb, 0, none⟩)] rfl rfl ?c1 ?c2 ?c3 ?c4 ?c5 ?_)
  case c1 => exact cell_one_new _ _ _
  case c2 => intro u hu; simp at hu; subst hu; rfl
  case c3 => decide
  case c4 => decide
  case c5 => simp
  intro v' w1 hown hgrow _
  have hb1 : Below w.heap.size w w1 := (((below_drewN w.heap.size w _).alloc (by simp) _).grown hgrow (by simp) (fun k h => by simp [Value.ownBlock] at h))
  obtain ⟨hc, _⟩ := bcell hb1
  have hsz := hb1.size
  obtain ⟨g, cp1, hv⟩ := Joins.ownsRow_form hown (by omega)
  have cf1 := (hc _ _ q).trans cf
  have Hb1 : Aside (Below w.heap.size w w1) := hb1
  have Hown : Aside (w1.ownsRow w.heap.size 25 1 v' (0 + 1) ([] ++ [.pointer (some ⟨eb, 0, none⟩)])) := hown
  clear hown hgrow hb1 hc c5 cj co ce cf cp
  rw [hv]
  rw [hv] at Hown
  clear hv
  cases fq with
  | none =>
    simp only [vp, ap] at cf1
    go_wp2
    go_ret
    exact ⟨_, rfl, Hown.out, Hb1.out⟩
  | some f =>
    simp only [vp, ap] at cf1
    go_wp2_with (at_builtin; refine wpList_append_own _ rfl (.tmp 82) (.tmp 88) 65 rfl w.heap.size 25 i0 (.pointer none) 1 8 Yba.underlying65 hi hz0 hz1 hz2 rfl (by decide) _ _ _ rfl (World.ownsRow.alloc Hown.out _) ⟨w1.heap.size, 0, none⟩ 1 1 [.pointer (some ⟨f, 0, none⟩)] rfl rfl ?d1 ?d2 ?d3 ?d4 ?d5 ?_)
    case d1 => exact cell_one_new _ _ _
    case d2 => intro u hu; simp at hu; subst hu; rfl
    case d3 => decide
    case d4 => decide
    case d5 => simp; omega
    intro v2 w2 hown2 hgrow2 _
    have R : Aside (w2.ownsRow w.heap.size 25 1 v2 (0 + 1 + 1) ([] ++ [.pointer (some ⟨eb, 0, none⟩)] ++ [.pointer (some ⟨f, 0, none⟩)]) ∧ Below w.heap.size w w2) :=
      ⟨hown2, (Hb1.out.alloc (by omega) _).grown hgrow2 (by simp; omega) (fun k h => own_base Hown.out h)⟩
    clear hown2 hgrow2
    go_wp2
    go_ret
    exact ⟨_, rfl, R.out.1, R.out.2⟩

set_option maxRecDepth 100000 in
set_option maxHeartbeats 1000000 in
theorem changes_nba (Q M k : Nat) (b : Nat) (fq : Option Nat) (o jt pin : Int) (hk : k < 3) (w : World) (h : Mem w Q M k (some b) none fq o jt pin) (hlt : ¬ o < jt) :
    Calls Yba.prog 4 #[.pointer (some ⟨Q, 0, none⟩), .int .i64 k] w fun e w' => ∃ v, e = .returned v ∧ w'.ownsRow w.heap.size 25 1 v (0 + if fq.isSome then 1 else 0) (([] : List Value) ++ if fq.isSome then [vp fq] else []) ∧ Below w.heap.size w w' := by
  obtain ⟨i0, hi, hz0, hz1, hz2⟩ := info_parts Yba.info25
  obtain ⟨q, m, c5, cj, co, ct, ce, cf, cp⟩ := h
  obtain ⟨hbl, ct⟩ := ct b rfl
  simp only [vp, ap] at cj
  simp only [vp, ap] at ce
  cases fq with
  | none =>
    simp only [vp, ap] at cf
    go_enter Yba.func4, Yba.ntmps4
    go_wp2
    go_quiet (fail)
    go_wp2
    go_quiet (fail)
    go_wp2
    go_ret
    exact ⟨_, rfl, World.ownsRow_nil _ _ _ _, below_drewN _ _ _⟩
  | some f =>
    simp only [vp, ap] at cf
    go_enter Yba.func4, Yba.ntmps4
    go_wp2
    go_quiet (fail)
    go_wp2
    go_quiet (fail)
    go_wp2_with (at_builtin; refine wpList_append_own _ rfl (.tmp 82) (.tmp 88) 65 rfl w.heap.size 25 i0 (.pointer none) 1 8 Yba.underlying65 hi hz0 hz1 hz2 rfl (by decide) _ _ _ rfl (World.ownsRow_nil _ _ _ _) ⟨w.heap.size, 0, none⟩ 1 1 [.pointer (some ⟨f, 0, none⟩)] rfl rfl ?c1 ?c2 ?c3 ?c4 ?c5 ?_)
    case c1 => exact cell_one_new _ _ _
    case c2 => intro u hu; simp at hu; subst hu; rfl
    case c3 => decide
    case c4 => decide
    case c5 => simp
    intro v' w1 hown hgrow _
    have hb1 : Below w.heap.size w w1 := (((below_drewN w.heap.size w _).alloc (by simp) _).grown hgrow (by simp) (fun k h => by simp [Value.ownBlock] at h))
    have R : Aside (w1.ownsRow w.heap.size 25 1 v' (0 + 1) ([] ++ [.pointer (some ⟨f, 0, none⟩)]) ∧ Below w.heap.size w w1) := ⟨hown, hb1⟩
    clear hown hgrow hb1
    go_wp2
    go_ret
    exact ⟨_, rfl, R.out.1, R.out.2⟩

set_option maxRecDepth 100000 in
set_option maxHeartbeats 1000000 in
theorem changes_nbb (Q M k : Nat) (b : Nat) (eb : Nat) (fq : Option Nat) (o jt pin : Int) (hk : k < 3) (w : World) (h : Mem w Q M k (some b) (some eb) fq o jt pin) (hlt : ¬ o < jt) (hel : ¬ o < pin) :
    Calls Yba.prog 4 #[.pointer (some ⟨Q, 0, none⟩), .int .i64 k] w fun e w' => ∃ v, e = .returned v ∧ w'.ownsRow w.heap.size 25 1 v (0 + if fq.isSome then 1 else 0) (([] : List Value) ++ if fq.isSome then [vp fq] else []) ∧ Below w.heap.size w w' := by
  obtain ⟨i0, hi, hz0, hz1, hz2⟩ := info_parts Yba.info25
  obtain ⟨q, m, c5, cj, co, ct, ce, cf, cp⟩ := h
  obtain ⟨hbl, ct⟩ := ct b rfl
  simp only [vp, ap] at cj
  simp only [vp, ap] at ce
  cases fq with
  | none =>
    simp only [vp, ap] at cf
    go_enter Yba.func4, Yba.ntmps4
    go_wp2
    go_quiet (fail)
    go_wp2
    go_quiet (fail)
    go_wp2
    go_ret
    exact ⟨_, rfl, World.ownsRow_nil _ _ _ _, below_drewN _ _ _⟩
  | some f =>
    simp only [vp, ap] at cf
    go_enter Yba.func4, Yba.ntmps4
    go_wp2
    go_quiet (fail)
    go_wp2
    go_quiet (fail)
    go_wp2_with (at_builtin; refine wpList_append_own _ rfl (.tmp 82) (.tmp 88) 65 rfl w.heap.size 25 i0 (.pointer none) 1 8 Yba.underlying65 hi hz0 hz1 hz2 rfl (by decide) _ _ _ rfl (World.ownsRow_nil _ _ _ _) ⟨w.heap.size, 0, none⟩ 1 1 [.pointer (some ⟨f, 0, none⟩)] rfl rfl ?c1 ?c2 ?c3 ?c4 ?c5 ?_)
    case c1 => exact cell_one_new _ _ _
    case c2 => intro u hu; simp at hu; subst hu; rfl
    case c3 => decide
    case c4 => decide
    case c5 => simp
    intro v' w1 hown hgrow _
    have hb1 : Below w.heap.size w w1 := (((below_drewN w.heap.size w _).alloc (by simp) _).grown hgrow (by simp) (fun k h => by simp [Value.ownBlock] at h))
    have R : Aside (w1.ownsRow w.heap.size 25 1 v' (0 + 1) ([] ++ [.pointer (some ⟨f, 0, none⟩)]) ∧ Below w.heap.size w w1) := ⟨hown, hb1⟩
    clear hown hgrow hb1
    go_wp2
    go_ret
    exact ⟨_, rfl, R.out.1, R.out.2⟩

/-- (*peer).changesFor. -/
theorem changes_any (Q M k : Nat) (jq eq fq : Option Nat) (o jt pin : Int) (hk : k < 3) (w : World) (h : Mem w Q M k jq eq fq o jt pin) :
    Calls Yba.prog 4 #[.pointer (some ⟨Q, 0, none⟩), .int .i64 k] w fun e w' => ∃ v, e = .returned v ∧ w'.ownsRow w.heap.size 25 1 v (picks jq (decide (o < jt)) eq (decide (o < pin)) fq).length ((picks jq (decide (o < jt)) eq (decide (o < pin)) fq).map vp) ∧ Below w.heap.size w w' := by
  have key : ∀ (n : Nat) (xs : List Value) (ys : List (Option Nat)), xs = ys.map vp → n = ys.length → picks jq (decide (o < jt)) eq (decide (o < pin)) fq = ys ++ (if fq.isSome then [fq] else []) →
      (Calls Yba.prog 4 #[.pointer (some ⟨Q, 0, none⟩), .int .i64 k] w fun e w' => ∃ v, e = .returned v ∧ w'.ownsRow w.heap.size 25 1 v (n + if fq.isSome then 1 else 0) (xs ++ if fq.isSome then [vp fq] else []) ∧ Below w.heap.size w w') →
      Calls Yba.prog 4 #[.pointer (some ⟨Q, 0, none⟩), .int .i64 k] w fun e w' => ∃ v, e = .returned v ∧ w'.ownsRow w.heap.size 25 1 v (picks jq (decide (o < jt)) eq (decide (o < pin)) fq).length ((picks jq (decide (o < jt)) eq (decide (o < pin)) fq).map vp) ∧ Below w.heap.size w w' := by
    intro n xs ys e1 e2 e3 hc
    rw [e3]
    have l1 : (ys ++ if fq.isSome then [fq] else []).length = n + if fq.isSome then 1 else 0 := by rw [e2]; split <;> simp
    have l2 : (ys ++ if fq.isSome then [fq] else []).map vp = xs ++ if fq.isSome then [vp fq] else [] := by rw [e1]; split <;> simp
    rw [l1, l2]
    exact hc
  cases jq with
  | none =>
    cases eq with
    | none => exact key 0 [] [] rfl rfl (by simp [picks]) (changes_naa Q M k fq o jt pin hk w h)
    | some eb =>
      by_cases hel : o < pin
      · exact key 1 [vp (some eb)] [some eb] rfl rfl (by simp [picks, hel]) (changes_ea Q M k eb fq o jt pin hk w h hel)
      · exact key 0 [] [] rfl rfl (by simp [picks, hel]) (changes_nab Q M k eb fq o jt pin hk w h hel)
  | some b =>
    by_cases hlt : o < jt
    · exact key 1 [vp (some b)] [some b] rfl rfl (by simp [picks, hlt]) (changes_j Q M k b eq fq o jt pin hk w h hlt)
    · cases eq with
      | none => exact key 0 [] [] rfl rfl (by simp [picks, hlt]) (changes_nba Q M k b fq o jt pin hk w h hlt)
      | some eb =>
        by_cases hel : o < pin
        · exact key 1 [vp (some eb)] [some eb] rfl rfl (by simp [picks, hlt, hel]) (changes_eb Q M k eb b fq o jt pin hk w h hlt hel)
        · exact key 0 [] [] rfl rfl (by simp [picks, hlt, hel]) (changes_nbb Q M k b eb fq o jt pin hk w h hlt hel)
end Go.Proofs.Ybulkceou
