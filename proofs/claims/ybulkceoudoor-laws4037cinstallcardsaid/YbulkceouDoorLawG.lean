/-
  LawS4037CInstall: the law's last loop (seat b4037aD).
-/
import Derived.Test.YbulkceouDoorInst
namespace Go.Proofs.YbulkceouDoor
open Go.RowKit Go.Shelf

noncomputable def lG : Code := (Ybad.f3.body.bind (fromR 61)).getD .skip
theorem below_drewN (B : Nat) (w : World) (n : Nat) : Below B w (w.drewN n) := ⟨rfl, rfl, rfl, Nat.le_refl _, fun _ _ => rfl⟩

/-- Is the bit k set? -/
theorem bit_word (c k : Nat) (hk : k < 64) (hc : c < 2 ^ 64) : bits .and .u64 (c : Int) (IntKind.u64.wrap (2 ^ k)) = if c.testBit k then ((2 ^ k : Nat) : Int) else 0 := by
  have h2 : 2 ^ k < 2 ^ 64 := Nat.pow_lt_pow_right (by omega) hk
  have e : IntKind.u64.wrap ((2 : Int) ^ k) = ((2 ^ k : Nat) : Int) := by
    have : ((2 : Int) ^ k) = ((2 ^ k : Nat) : Int) := by simp
    rw [this, IntKind.wrap_u64]
    generalize 2 ^ k = z at h2
    omega
  rw [e, bits_and_u64_nat c _ (by omega) (by omega)]
  have : c &&& 2 ^ k = if c.testBit k then 2 ^ k else 0 := Nat.eq_of_testBit_eq fun i => by
    rw [Nat.testBit_and, Nat.testBit_two_pow]
    by_cases hi : k = i
    · subst hi
      cases h : c.testBit k <;> simp
    · cases h : c.testBit k <;> simp [hi]
  rw [this]
  cases c.testBit k <;> simp

theorem bit_ne (c k : Nat) (hk : k < 64) (hc : c < 2 ^ 64) : (bits .and .u64 (c : Int) (IntKind.u64.wrap (2 ^ k)) != 0) = c.testBit k := by
  rw [bit_word c k hk hc]
  have : 0 < 2 ^ k := Nat.two_pow_pos k
  cases c.testBit k with
  | false => rfl
  | true =>
    rw [if_pos rfl]
    generalize 2 ^ k = z at this
    simp
    omega

theorem bit_eq (c k : Nat) (hk : k < 64) (hc : c < 2 ^ 64) : (bits .and .u64 (c : Int) (IntKind.u64.wrap (2 ^ k)) == 0) = !c.testBit k := by
  have := bit_ne c k hk hc
  rw [← this]
  simp [bne]

set_option maxRecDepth 100000 in
set_option maxHeartbeats 1000000 in
theorem law_G (N n nb cm eb K gc : Nat) (nm : Nat → ByteArray) (ga : Option Addr) (w0 we : World)
    (hn : n ≤ 64) (hcm : cm < 2 ^ n) (hK : K = (mem cm).length)
    (ee : we.cell? ⟨eb, 4, none⟩ = some (.slice ga K gc))
    (cells : ∀ j x, (mem cm)[j]? = some x → ∃ g, ga = some ⟨g, 0, none⟩ ∧ we.cell? ⟨g, j, none⟩ = some (.string (nm x)))
    (hnm : ∀ k, k < n → we.cell? ⟨nb, k, none⟩ = some (.string (nm k)))
    (Hfin : Aside (Below N w0 we)) (c0 c1 c2 c4 c5 c6 c7 c8 c9 c10 c11 c12 c13 c14 c15 c16 c19 c20 c21 c22 c23 c24 c25 c26 c27 c28 c29 c30 c31 c32 c33 c34 c35 c36 c38 c39 c40 c41 c42 c43 c44 c45 c46 c47 c48 c49 c50 c51 c52 c53 c54 c55 c56 c57 c58 c59 c60 c61 c62 c63 c64 c65 c66 c67 c68 c69 c70 c71 c72 c73 c74 c75 c76 c77 c78 c79 c80 c81 c82 c83 c84 c85 c86 c87 c88 c89 c90 c91 c92 c93 c94 c95 c96 c97 c98 c99 c100 c101 c102 c103 c104 c105 c106 c107 c108 c109 c110 c111 c112 c113 c114 c115 c116 c117 c118 c119 c120 c121 c122 c123 c124 c125 c126 c127 c128 c129 c130 c131 c132 c133 c134 c135 c136 c137 c138 c139 c140 c141 c142 c143 c144 c145 c146 c147 c148 c149 c150 c151 c152 c153 c154 c155 c156 c157 c158 c159 c160 c161 c162 c163 c164 c165 c166 c167 c168 c169 c170 c171 c172 c173 c174 c175 c176 c177 c178 c179 c180 c181 c182 c183 c184 c185 c186 c187 c188 c189 c190 c191 c192 c193 c194 c195 c196 c197 c198 c199 c200 c201 c202 c203 c204 c205 c206 c207 c208 c209 c210 c211 c212 c213 c214 c215 c216 c217 c218 c219 c220 c221 c222 c223 c224 c225 c226 c227 c228 c229 c230 c231 c232 c233 c234 c235 c236 c237 c238 c239 c240 c241 c242 c243 c244 c245 c246 c247 c248 c249 c250 c251 c252 c253 c254 c255 c256 c257 c258 c259 c260 c261 c262 c263 c264 c265 c266 c267 c268 c269 c270 c271 c272 c273 c274 c275 c276 c277 c278 c279 c280 c281 c282 c283 c284 c285 c286 c287 c288 c289 c290 c291 c292 c293 c294 c295 c296 c297 c298 c299 c300 c301 c302 c303 c304 c305 c306 c307 c308 c309 c310 c311 c312 c313 : Value) :
    lG.wp Ybad.prog (bodyPost Ybad.prog Ybad.f3 fun e w' => e = .returned (.bool true) ∧ Below N w0 w') ⟨#[c0, c1, c2, .int .u64 cm, c4, c5, c6, c7, c8, c9, c10, c11, c12, c13, c14, c15, c16, .int .i64 n, .slice (some ⟨nb, 0, none⟩) n n, c19, c20, c21, c22, c23, c24, c25, c26, c27, c28, c29, c30, c31, c32, c33, c34, c35, c36, .pointer (some ⟨eb, 0, none⟩), c38, c39, c40, c41, c42, c43, c44, c45, c46, c47, c48, c49, c50, c51, c52, c53, c54, c55, c56, c57, c58, c59, c60, c61, c62, c63, c64, c65, c66, c67, c68, c69, c70, c71, c72, c73, c74, c75, c76, c77, c78, c79, c80, c81, c82, c83, c84, c85, c86, c87, c88, c89, c90, c91, c92, c93, c94, c95, c96, c97, c98, c99, c100, c101, c102, c103, c104, c105, c106, c107, c108, c109, c110, c111, c112, c113, c114, c115, c116, c117, c118, c119, c120, c121, c122, c123, c124, c125, c126, c127, c128, c129, c130, c131, c132, c133, c134, c135, c136, c137, c138, c139, c140, c141, c142, c143, c144, c145, c146, c147, c148, c149, c150, c151, c152, c153, c154, c155, c156, c157, c158, c159, c160, c161, c162, c163, c164, c165, c166, c167, c168, c169, c170, c171, c172, c173, c174, c175, c176, c177, c178, c179, c180, c181, c182, c183, c184, c185, c186, c187, c188, c189, c190, c191, c192, c193, c194, c195, c196, c197, c198, c199, c200, c201, c202, c203, c204, c205, c206, c207, c208, c209, c210, c211, c212, c213, c214, c215, c216, c217, c218, c219, c220, c221, c222, c223, c224, c225, c226, c227, c228, c229, c230, c231, c232, c233, c234, c235, c236, c237, c238, c239, c240, c241, c242, c243, c244, c245, c246, c247, c248, c249, c250, c251, c252, c253, c254, c255, c256, c257, c258, c259, c260, c261, c262, c263, c264, c265, c266, c267, c268, c269, c270, c271, c272, c273, c274, c275, c276, c277, c278, c279, c280, c281, c282, c283, c284, c285, c286, c287, c288, c289, c290, c291, c292, c293, c294, c295, c296, c297, c298, c299, c300, c301, c302, c303, c304, c305, c306, c307, c308, c309, c310, c311, c312, c313], []⟩ we := by
  conv => arg 2; whnf
  go_wp2
  go_loopg [38, 39] (n + 1) (fun g vm vk wx => ∃ k m : Nat, vm = .int .i64 (below cm k) ∧ vk = .int .i64 k ∧ k ≤ n ∧ n - k < g ∧ wx = we.drewN m)
  case atStart => exact ⟨0, 0, rfl, rfl, Nat.zero_le _, by omega, rfl⟩
  case round =>
    obtain ⟨k, m, rfl, rfl, hk, hg, rfl⟩ := hrel
    by_cases hlt : k < n
    · have hlt' : (k : Int) < (n : Int) := by omega
      have hb := bit_ne cm k (by omega) (Nat.lt_of_lt_of_le hcm (Nat.pow_le_pow_right (by omega) hn))
      cases ht : cm.testBit k with
      | false =>
        rw [ht] at hb
        go_wp2
        go_roundg (n - k)
        case measure => omega
        case rel => exact ⟨k + 1, _, by rw [below_succ, ht]; rfl, by go_num, by omega, by omega, rfl⟩
      | true =>
        rw [ht] at hb
        have hat := mem_at cm k (by omega) ht
        obtain ⟨g0, rfl, hc⟩ := cells _ _ hat
        have hck := hnm k hlt
        have hbl : below cm k < K := by rw [hK]; exact (List.getElem?_eq_some_iff.1 hat).1
        have hbl' : ((below cm k : Nat) : Int) < (K : Int) := by omega
        have hge : (K ≤ below cm k) = False := by simp; omega
        have hK64 : K ≤ 64 := by rw [hK]; exact mem_length cm
        clear cells hnm hK
        go_wp2
        go_quiet (fail)
        go_wp2
        go_roundg (n - k)
        case measure => omega
        case rel => exact ⟨k + 1, _, by rw [below_succ, ht]; go_num, by go_num, by omega, by omega, rfl⟩
    · obtain rfl : k = n := by omega
      have hba : ((below cm k : Nat) : Int) = (K : Int) := by rw [below_all cm k hn hcm, hK]
      clear hK
      go_wp2
      go_ret
      exact ⟨by simp [hba], Hfin.out.trans (below_drewN _ _ _)⟩
end Go.Proofs.YbulkceouDoor
