/-
  LawS4037BPicks: THE WALK, its last part: the two comparing loops (seat b4037a).
-/
import Derived.Test.YbulkceouPicks2
import Derived.Deep.DeepCutAuto
namespace Go.Proofs.Ybulkceou
open Go.RowKit
attribute [local go_sem] fold48 size_oc

/-- The number of the first region of a piece of code. -/
def headR : Code → Option Nat
  | .region n _ _ => some n
  | .seq a _ => headR a
  | .block _ c => headR c
  | .scope c => headR c
  | _ => none
/-- The rest of a chain of statements, from the statement whose first region is the n-th. -/
def fromR (n : Nat) : Code → Option Code
  | .seq a b => match headR a == some n with
    | true => some (.seq a b)
    | false => fromR n b
  | .block _ c => fromR n c
  | .scope c => fromR n c
  | _ => none

noncomputable def tC : Code := (Yba.f3.body.bind (fromR 24)).getD .skip

set_option maxRecDepth 100000 in
set_option maxHeartbeats 1000000 in
theorem picks_C (o0 o1 o2 j0 j1 j2 pin sel : Int) (b0 b1 b2 ent fol : Bool) (w we : World) (k q : Nat) (P : Nat → Option Nat) (eq fq : Option Nat) (L : List (Option Nat)) (ga wa2 : Option Addr) (gc wc2 : Nat) (c26 c27 c28 c29 c30 c31 c32 c33 c34 c35 c36 c37 c38 c39 c40 c41 c42 c43 c44 c45 c46 c47 c48 c49 c50 c51 c52 c53 c54 c55 c56 c57 c58 c59 c60 c61 c62 c63 c64 c65 c66 c67 c68 c69 c70 c71 c72 c73 c74 c75 c76 c77 c78 c79 c80 c81 c82 c83 c84 c85 c86 c87 c88 c89 c90 c91 c92 c93 c94 c95 c96 c97 c98 c99 c100 c101 c102 c103 c104 c105 c106 c107 c108 c109 c110 c111 c112 c113 c114 c115 c116 c117 c118 c119 c120 c121 c122 c125 c126 c127 c128 c129 c130 c131 c132 c133 c134 c135 c136 c137 c138 c139 c140 c141 c142 c143 c144 c145 c146 c147 c148 c149 c150 c151 c152 c153 c154 c155 c156 c157 c158 c159 c160 c161 c162 c163 c164 c165 c166 c167 c168 c169 c170 c171 c172 c173 c174 c175 c176 c177 c178 c179 c180 c181 c182 c183 c184 c185 c186 c187 c188 c189 c190 c191 c192 c193 c194 c195 c196 c197 c198 c199 c200 c201 c202 c203 c204 c205 c206 c207 c208 c209 c210 c211 c212 c213 c214 c215 c216 c217 c218 : Value)
    (hLlen : L.length ≤ 2)
    (cells : ∀ j x, L[j]? = some x → (∃ g, ga = some ⟨g, 0, none⟩ ∧ we.cell? ⟨g, j, none⟩ = some (.pointer (ap x))) ∧ ∃ g, wa2 = some ⟨g, 0, none⟩ ∧ we.cell? ⟨g, j, none⟩ = some (.pointer (ap x)))
    (r5 : we.cell? ⟨q, 5, none⟩ = some (.slice (some ⟨w.heap.size + 1 + 1 + 1 + 1, 0, none⟩) 3 3))
    (r19 : we.cell? ⟨q, 19, none⟩ = some (.int .u64 pin))
    (r23 : we.cell? ⟨q, 23, none⟩ = some (.pointer (ap eq)))
    (r24 : we.cell? ⟨q, 24, none⟩ = some (.pointer (ap fq)))
    (Hat : Aside (∀ i, i < 3 → At w (p3 o0 o1 o2) (p3 j0 j1 j2) (p3 b0 b1 b2) P i we))
    (Hfin : Aside (Below w.heap.size w we)) :
    Code.wp Yba.prog tC (bodyPost Yba.prog Yba.f3 fun e w' => e = .returned (.bool true) ∧ Below w.heap.size w w') ⟨#[.agg #[.int .u64 o0, .int .u64 o1, .int .u64 o2], .agg #[.int .u64 j0, .int .u64 j1, .int .u64 j2], .agg #[.bool b0, .bool b1, .bool b2], .int .u64 pin, .bool ent, .bool fol, .int .u8 sel, .pointer (some ⟨w.heap.size, 0, none⟩), .pointer (some ⟨w.heap.size + 1, 0, none⟩), .pointer (some ⟨w.heap.size + 1 + 1, 0, none⟩), undef, undef, undef, undef, .bool false, .int .i64 k, .pointer (some ⟨w.heap.size + 1 + 1 + 1, 0, none⟩), .slice (some ⟨w.heap.size + 1 + 1 + 1 + 1, 0, none⟩) 3 3, .int .i64 3, .pointer (ap eq), .pointer (ap fq), .pointer (some ⟨q, 0, none⟩), .slice ga L.length gc, .slice wa2 L.length wc2, undef, undef, c26, c27, c28, c29, c30, c31, c32, c33, c34, c35, c36, c37, c38, c39, c40, c41, c42, c43, c44, c45, c46, c47, c48, c49, c50, c51, c52, c53, c54, c55, c56, c57, c58, c59, c60, c61, c62, c63, c64, c65, c66, c67, c68, c69, c70, c71, c72, c73, c74, c75, c76, c77, c78, c79, c80, c81, c82, c83, c84, c85, c86, c87, c88, c89, c90, c91, c92, c93, c94, c95, c96, c97, c98, c99, c100, c101, c102, c103, c104, c105, c106, c107, c108, c109, c110, c111, c112, c113, c114, c115, c116, c117, c118, c119, c120, c121, c122, undef, undef, c125, c126, c127, c128, c129, c130, c131, c132, c133, c134, c135, c136, c137, c138, c139, c140, c141, c142, c143, c144, c145, c146, c147, c148, c149, c150, c151, c152, c153, c154, c155, c156, c157, c158, c159, c160, c161, c162, c163, c164, c165, c166, c167, c168, c169, c170, c171, c172, c173, c174, c175, c176, c177, c178, c179, c180, c181, c182, c183, c184, c185, c186, c187, c188, c189, c190, c191, c192, c193, c194, c195, c196, c197, c198, c199, c200, c201, c202, c203, c204, c205, c206, c207, c208, c209, c210, c211, c212, c213, c214, c215, c216, c217, c218], []⟩ we := by
  have hn1 := neq_ap
  have hn2 := neq_ap_nil
  conv => arg 2; whnf
  go_wp2
  go_loopg [124] (L.length + 1) (fun k vi wx => ∃ j m : Nat, vi = .int .i64 j ∧ j ≤ L.length ∧ L.length - j < k ∧ wx = we.drewN m)
  case atStart => exact ⟨0, 0, rfl, Nat.zero_le _, by omega, rfl⟩
  case round =>
    obtain ⟨j, m, rfl, hj, hgk, rfl⟩ := hrel
    by_cases hjl : j < L.length
    · obtain ⟨x, hx⟩ : ∃ x, L[j]? = some x := ⟨_, List.getElem?_eq_getElem hjl⟩
      obtain ⟨⟨g1, rfl, hg1⟩, g2, rfl, hg2⟩ := cells j x hx
      clear hx
      have hjl' : (j : Int) < (L.length : Int) := by omega
      go_wp2
      go_quiet (fail)
      go_wp2
      go_roundg (L.length - j)
      case measure => omega
      case rel => exact ⟨j + 1, _, by go_num, by omega, by omega, rfl⟩
    · clear cells
      go_wp2
      go_loopg [25] 4 (fun k vi wx => ∃ i m : Nat, vi = .int .i64 i ∧ i ≤ 3 ∧ 3 - i < k ∧ wx = we.drewN m)
      case atStart => exact ⟨0, _, rfl, by omega, by omega, rfl⟩
      case round =>
        obtain ⟨i, m2, rfl, hi3, hgk2, rfl⟩ := hrel
        by_cases hlt : i < 3
        · obtain ⟨_, co, cj, cb, ca, c18, c27, ct, _⟩ := Hat.out i hlt
          generalize p3 o0 o1 o2 i = oi at *
          generalize p3 j0 j1 j2 i = ji at *
          simp only [vp] at ca c27
          have hi3' : (i : Int) < 3 := by omega
          have hoo : (oi != oi) = false := by simp
          have hjj : (ji != ji) = false := by simp
          clear cb
          cases hP : P i with
          | none =>
            rw [hP] at ca c27
            clear ct
            go_wp2
            go_quiet (fail)
            go_wp2
            go_quiet (fail)
            go_wp2
            go_roundg (3 - i)
            case measure => omega
            case rel => exact ⟨i + 1, _, by go_num, by omega, by omega, rfl⟩
          | some q =>
            obtain ⟨hql, hqt⟩ := ct q hP
            rw [hP] at ca c27
            simp only [ap] at ca c27
            have hn3 := fun W => neq_ap (some q) W
            have hn4 := fun W => neq_ap_nil (some q) W
            simp only [ap] at hn3 hn4
            clear ct hP
            go_wp2
            go_quiet (fail)
            go_wp2
            go_quiet (fail)
            go_wp2
            go_roundg (3 - i)
            case measure => omega
            case rel => exact ⟨i + 1, _, by go_num, by omega, by omega, rfl⟩
        · have hpp : (pin != pin) = false := by simp
          go_wp2
          go_ret
          exact ⟨rfl, Hfin.out.trans (below_drewN _ _ _)⟩
end Go.Proofs.Ybulkceou
