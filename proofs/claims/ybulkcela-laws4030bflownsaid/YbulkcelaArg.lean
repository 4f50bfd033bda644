/-
  WHAT THE LAW's ARGUMENT IS IN MEMORY, in words that a walk can use (seat b4030a); and zzs4030bsize: it returns some number.
-/
import Derived.Test.YbulkcelaTime
import Derived.Deep.LoopGhost
import Derived.Deep.Slices
namespace Go.Proofs.Ybulkcela
open Go.RowKit

def IsU8 (v : Value) : Prop := ∃ n : Int, v = .int .u8 n ∧ 0 ≤ n ∧ n ≤ 255
def IsStr (v : Value) : Prop := ∃ s : ByteArray, v = .string s ∧ s.size ≤ maxLen

/-- A slice value of one-cell elements, each below block B and such as Q says; nil too. -/
def SliceOf (w : World) (B : Nat) (Q : Value → Prop) (v : Value) : Prop :=
  ∃ a l c, v = .slice a l c ∧ (l : Int) ≤ 9223372036854775807 ∧ ∀ j, j < l → ∃ bb oo u, a = some ⟨bb, oo, none⟩ ∧ bb < B ∧ w.cell? ⟨bb, oo + j, none⟩ = some u ∧ Q u

theorem SliceOf.kept {w w' : World} {B : Nat} {Q Q' : Value → Prop} {v : Value} (h : SliceOf w B Q v) (hb : Below B w w') (hq : ∀ u, Q u → Q' u) : SliceOf w' B Q' v := by
  obtain ⟨a, l, c, rfl, hl, hj⟩ := h
  refine ⟨a, l, c, rfl, hl, fun j hjl => ?_⟩
  obtain ⟨bb, oo, u, ha, hB, hc, hQ⟩ := hj j hjl
  exact ⟨bb, oo, u, ha, hB, (hb.cell (p := ⟨bb, oo + j, none⟩) hB).trans hc, hq u hQ⟩

abbrev Strs (w : World) (B : Nat) : Value → Prop := SliceOf w B IsStr
abbrev Lists (w : World) (B : Nat) : Value → Prop := SliceOf w B (Strs w B)

theorem Lists.kept {w w' : World} {B : Nat} {v : Value} (h : Lists w B v) (hb : Below B w w') : Lists w' B v :=
  SliceOf.kept h hb fun _ hu => SliceOf.kept hu hb fun _ h => h

/-- Element i of the argument. -/
structure Elem (w : World) (B b off : Nat) (S E : Nat → Int) (i : Nat) : Prop where
  lt : b < B
  names : ∃ nv, w.cell? ⟨b, off + i * 4, none⟩ = some nv ∧ SliceOf w B IsU8 nv
  values : ∃ vv, w.cell? ⟨b, off + i * 4 + 1, none⟩ = some vv ∧ Lists w B vv
  start : w.cell? ⟨b, off + i * 4 + 2, none⟩ = some (.int .i64 (S i))
  fin : w.cell? ⟨b, off + i * 4 + 3, none⟩ = some (.int .i64 (E i))
  s0 : -9223372036854775808 ≤ S i
  s1 : S i ≤ 9223372036854775807
  e0 : -9223372036854775808 ≤ E i
  e1 : E i ≤ 9223372036854775807

theorem Elem.kept {w w' : World} {B b off : Nat} {S E : Nat → Int} {i : Nat} (h : Elem w B b off S E i) (hb : Below B w w') : Elem w' B b off S E i := by
  obtain ⟨lt, ⟨nv, n1, n2⟩, ⟨vv, v1, v2⟩, st, fi, s0, s1, e0, e1⟩ := h
  exact ⟨lt, ⟨nv, (hb.cell (p := ⟨b, _, none⟩) lt).trans n1, n2.kept hb fun _ h => h⟩, ⟨vv, (hb.cell (p := ⟨b, _, none⟩) lt).trans v1, Lists.kept v2 hb⟩,
    (hb.cell (p := ⟨b, _, none⟩) lt).trans st, (hb.cell (p := ⟨b, _, none⟩) lt).trans fi, s0, s1, e0, e1⟩

/-- The argument: a slice of such elements. -/
def Arg (w : World) (B : Nat) (a : Option Addr) (len : Nat) (S E : Nat → Int) : Prop :=
  ∀ i, i < len → ∃ b off, a = some ⟨b, off, none⟩ ∧ Elem w B b off S E i

theorem Arg.kept {w w' : World} {B : Nat} {a : Option Addr} {len : Nat} {S E : Nat → Int} (h : Arg w B a len S E) (hb : Below B w w') : Arg w' B a len S E := by
  intro i hi
  obtain ⟨b, off, ha, he⟩ := h i hi
  exact ⟨b, off, ha, he.kept hb⟩

theorem below_drewN (B : Nat) (w : World) (n : Nat) : Below B w (w.drewN n) := ⟨rfl, rfl, rfl, Nat.le_refl _, fun _ _ => rfl⟩

set_option maxHeartbeats 1000000 in
theorem size_walk (B : Nat) (a : Option Addr) (len cap : Nat) (S E : Nat → Int) (hl : (len : Int) ≤ 512) (w : World) (hA : Arg w B a len S E) :
    Calls Yba.prog 5 #[.slice a len cap] w fun e w' => ∃ t : Int, e = .returned (.int .i64 t) ∧ ∃ n, w' = w.drewN n := by
  go_enter Yba.func5, Yba.ntmps5
  go_wp2
  go_loopg [3, 10] (len + 1) (fun k vt vi wr => ∃ (t : Int) (i : Nat), vt = .int .i64 t ∧ vi = .int .i64 i ∧ i ≤ len ∧ len - i < k ∧ ∃ n, wr = w.drewN n)
  case atStart => exact ⟨_, 0, rfl, rfl, Nat.zero_le _, by omega, 0, rfl⟩
  case round =>
    obtain ⟨t, i, rfl, rfl, hi, hk, n0, rfl⟩ := hrel
    by_cases hlt : i < len
    · obtain ⟨b, off, rfl, he⟩ := hA i hlt
      obtain ⟨hbB, ⟨nv, n1, n2⟩, ⟨vv, v1, v2⟩, _, _, _, _, _, _⟩ := he
      obtain ⟨na, nl, nc, rfl, hnl, _⟩ := n2
      obtain ⟨va, vl, vc, rfl, hvl, hv⟩ := v2
      go_wp2
      go_quiet (fail)
      go_wp2
      go_loop [3, 34] (fun vt vp => ∃ (t : Int) (p : Nat), vt = .int .i64 t ∧ vp = .int .i64 p ∧ p ≤ vl) (fun _ vp => vl - (intOf vp).toNat)
      case atStart => exact ⟨_, 0, rfl, rfl, Nat.zero_le _⟩
      case round =>
        obtain ⟨t2, p, rfl, rfl, hp⟩ := hrel
        by_cases hpl : p < vl
        · obtain ⟨bb, oo, u, rfl, hbb, hu, hQ⟩ := hv p hpl
          obtain ⟨ua, ul, uc, rfl, hul, _⟩ := hQ
          go_wp2
          go_round
          case rel => exact ⟨_, p + 1, rfl, by go_num, by omega⟩
          case measure => simp [intOf]; omega
        · go_wp2
          go_roundg (len - i)
          case measure => omega
          case rel => exact ⟨_, i + 1, rfl, by go_num, by omega, by omega, _, rfl⟩
    · go_wp2
      go_ret
      exact ⟨_, rfl, _, rfl⟩
end Go.Proofs.Ybulkcela
