/-
  SMALL FACTS ON SHIFTS AND WRAPS FOR THE TWO LAWS' WALKS (seat b4029a).
-/
import Derived.Test.YbulkcekmWalks
namespace Go.Proofs.Ybulkcekm
open Go.RowKit

theorem sh_range (a2 : Int) : 0 ≤ wrap64 ((IntKind.u64.wrap a2).tmod 64) ∧ wrap64 ((IntKind.u64.wrap a2).tmod 64) ≤ 63 := by
  have h := wrap_u64_nonneg a2
  generalize IntKind.u64.wrap a2 = u at h
  rw [Int.tmod_eq_emod_of_nonneg h]
  unfold wrap64
  omega

theorem pow_range (n : Nat) (h : n ≤ 63) : 1 ≤ (2 : Int) ^ n ∧ (2 : Int) ^ n ≤ 9223372036854775808 := by
  have h1 : 2 ^ n ≤ 2 ^ 63 := Nat.pow_le_pow_right (by decide) h
  have h2 : 0 < 2 ^ n := Nat.pow_pos (by decide)
  have e : (2 : Int) ^ n = ((2 ^ n : Nat) : Int) := by simp
  rw [e]
  generalize 2 ^ n = m at h1 h2
  omega

theorem bound_range (sh : Int) (h0 : 0 ≤ sh) (h : sh ≤ 63) : 1 ≤ IntKind.u64.wrap (2 ^ sh.toNat) ∧ IntKind.u64.wrap (2 ^ sh.toNat) < 18446744073709551616 := by
  have h1 := pow_range sh.toNat (by omega)
  generalize (2 : Int) ^ sh.toNat = m at h1
  rw [wrap_of (by omega) (by omega)]
  omega

theorem wrap_sub2 (u v z : Int) (h : u - v = z) (h0 : 0 ≤ z) (h1 : z < 18446744073709551616) : IntKind.u64.wrap (IntKind.u64.wrap u - IntKind.u64.wrap v) = z := by
  rw [IntKind.wrap_u64, IntKind.wrap_u64, IntKind.wrap_u64]; omega

theorem wrap_add2 (u v z : Int) (h : u + v = z) (h0 : 0 ≤ z) (h1 : z < 18446744073709551616) : IntKind.u64.wrap (IntKind.u64.wrap u + IntKind.u64.wrap v) = z := by
  rw [IntKind.wrap_u64, IntKind.wrap_u64, IntKind.wrap_u64]; omega


theorem bounds_of_wf_u64 {a : Int} (h : (Lit.int .u64 a).wf = true) : 0 ≤ a ∧ a < 18446744073709551616 := by
  simp [Lit.wf, IntKind.min, IntKind.max, IntKind.bits, IntKind.signed] at h
  omega

end Go.Proofs.Ybulkcekm
