/-
  (*Kinds).Of, whole (seat b4030aZD).
-/
import Derived.Test.YbulkcelaGreatDoorOfB
import Derived.Test.YbulkcelaGreatDoorOfR
namespace Go.Proofs.YbulkcelaGreatDoor
open Go.RowKit Go.MapKept Go.Lib Go.Shelf Go.Maps

/-- The visit that Of is asked about. -/
inductive AskIn (w : World) (b0 len : Nat) (V : Nat → Nat) : Value → Int → Nat → Prop
  | kept (r m : Nat) (hm : m < 3) (hr : r ≠ b0 + 1) (hM : MapL w r [(aS, .string (valS m))]) (hyes : ∃ i, i < len ∧ V i = m) : AskIn w b0 len V (.map (some r)) m 1
  | nil : AskIn w b0 len V (.map none) (-1) 0
  | lost (r m : Nat) (hm : m < 3) (hr : r ≠ b0 + 1) (hM : MapL w r [(aS, .string (valS m))]) (hno : ∀ i, i < len → V i ≠ m) : AskIn w b0 len V (.map (some r)) (-1) 0

theorem AskIn.later {w w' : World} {b0 len : Nat} {V : Nat → Nat} {v : Value} {k : Int} {kc : Nat} (h : AskIn w b0 len V v k kc) (hk : Kept (b0 + 1) w w') : Asked w' b0 len V v k kc := by
  cases h with
  | kept r m hm hr hM _ => exact .kept r m hm hr (hk.map hM hr)
  | nil => exact .nil
  | lost r m hm hr hM hno => exact .lost r m hm hr (hk.map hM hr) hno

set_option maxRecDepth 100000 in
theorem zero9 (W : World) : (zeroValue 9).run Ybaz.prog W = .ok (.string ⟨#[]⟩) W := by rfl

/-- What Of looks up. -/
theorem AskIn.look {w w' : World} {b0 len : Nat} {V : Nat → Nat} {v : Value} {k : Int} {kc : Nat} (h : AskIn w b0 len V v k kc) (hk : Kept (b0 + 1) w w') (hA : Acc w' (b0 + 2) b0 V len) (hV : ∀ i, i < len → V i < 3) :
    ∃ u mv, (Instr.lookup 49 v (.string aS) false).run Ybaz.prog w' = .ok (.string u) w' ∧ (Instr.lookup 84 (.map (some b0)) (.string aS) false).run Ybaz.prog w' = .ok mv w' ∧ (Instr.lookup 91 mv (.string u) false).run Ybaz.prog w' = .ok (.bool (kc == 1)) w' ∧ (kc = 1 → ∃ m : Nat, k = m ∧ m < 3 ∧ u = valS m) := by
  cases h with
  | kept r m hm hr hM hyes =>
    obtain ⟨i, hi, hVi⟩ := hyes
    rcases hA with ⟨h1, _⟩ | ⟨_, mb, vs, _, _, h4, h5, h6⟩
    · omega
    · refine ⟨valS m, .map (some mb), ((hk.map hM hr).look_some (t := 49) (e := 9) Ybaz.underlying49 (by simp)).1, (h4.look_some (t := 84) (e := 91) Ybaz.underlying84 (by simp)).1, ?_, fun _ => ⟨m, rfl, hm, rfl⟩⟩
      exact (h5.look_some (t := 91) (e := 4) Ybaz.underlying91 (v := .bool true) (List.mem_map.2 ⟨m, (h6 m).2 ⟨i, hi, hVi⟩, rfl⟩)).1
  | nil =>
    have hnil := look_nil 91 4 w' ⟨#[]⟩ (.bool false) Ybaz.underlying91 (zero4 w') (by decide)
    have h1 := look_nil 49 9 w' aS (.string ⟨#[]⟩) Ybaz.underlying49 (zero9 w') aS_size
    rcases hA with ⟨_, h2⟩ | ⟨_, mb, vs, _, _, h4, h5, h6⟩
    · exact ⟨⟨#[]⟩, .map none, h1, (h2.look_none (t := 84) (e := 91) Ybaz.underlying84 (z := .map none) (zero91 w') aS_size (fun v hv => by cases hv)).1, hnil, fun e => by omega⟩
    · refine ⟨⟨#[]⟩, .map (some mb), h1, (h4.look_some (t := 84) (e := 91) Ybaz.underlying84 (by simp)).1, (h5.look_none (t := 91) (e := 4) Ybaz.underlying91 (z := .bool false) (zero4 w') (by decide) (fun v hv => ?_)).1, fun e => by omega⟩
      obtain ⟨u, hu, e⟩ := List.mem_map.1 hv
      injection e with e1 _
      exact valS_ne u e1
  | lost r m hm hr hM hno =>
    obtain ⟨mv, h1, h2⟩ := acc_no hA hV hm hno aS aS_size
    exact ⟨valS m, mv, ((hk.map hM hr).look_some (t := 49) (e := 9) Ybaz.underlying49 (by simp)).1, h1, h2, fun e => by omega⟩

set_option maxRecDepth 100000 in
theorem index98 (a b : ByteArray) (W : World) : (Instr.index 98 (.agg #[.string a, .string b]) (.int .i64 0)).run Ybaz.prog W = .ok (.string a) W ∧ (Instr.index 98 (.agg #[.string a, .string b]) (.int .i64 1)).run Ybaz.prog W = .ok (.string b) W := by
  constructor <;> rfl

/-- The key's bytes, so far. -/
def kpart (m i : Nat) : List Value := if i = 0 then [] else if i = 1 then [.int .u8 49, .int .u8 58, .int .u8 97] else (kbytes m).map (.int .u8)

theorem kpart_step0 (m : Nat) : kpart m 0 ++ [.int .u8 49] ++ [.int .u8 58] ++ strCells aS = kpart m 1 := by rfl
theorem kpart_step1 (m : Nat) (hm : m < 3) : kpart m 1 ++ [.int .u8 49] ++ [.int .u8 58] ++ strCells (valS m) = kpart m 2 := by
  rcases (show m = 0 ∨ m = 1 ∨ m = 2 by omega) with rfl | rfl | rfl <;> rfl

set_option linter.unusedSimpArgs false in
set_option maxRecDepth 100000 in
set_option maxHeartbeats 1000000 in
theorem of21 (b0 len N n kc : Nat) (V : Nat → Nat) (ks : List Int) (vs : Nat → Value) (nv fv kv keyv visv : Value) (xs : List Value) (k : Int) (w : World) (hKs : Ks w b0 len N V (idxEnts ks) ks vs nv fv kv keyv) (hkey : w.ownsRow (b0 + 3) 5 1 keyv n xs) (hn : n ≤ 10) (hr : ∀ x ∈ ks, -1 ≤ x ∧ x ≤ 2) (hV : ∀ i, i < len → V i < 3) (hks : ks.length ≤ 1000) (hask : AskIn w b0 len V visv k kc) :
    Calls Ybaz.prog 21 #[.pointer (some ⟨b0 + 2, 0, none⟩), visv] w fun e w' => ∃ j : Nat, e = .returned (.int .i64 j) ∧ OfEnd w b0 len N V ks nv fv k j w' := by
  obtain ⟨p, c, hkv⟩ := own_form hkey
  subst hkv
  obtain ⟨np, nc, hnv⟩ := own_form hKs.names
  have hlo := hKs.lo
  have hA : Aside ((∀ x ∈ ks, -1 ≤ x ∧ x ≤ 2) ∧ (∀ i, i < len → V i < 3) ∧ AskIn w b0 len V visv k kc) := ⟨hr, hV, hask⟩
  have hst : KeySt w (w.alloc (.cells #[.pointer (some ⟨b0 + 2, 0, none⟩)] 69)) b0 len N w.heap.size V ks vs nv fv kv p n c xs := by
    have hb : Below w.heap.size w (w.alloc (.cells #[.pointer (some ⟨b0 + 2, 0, none⟩)] 69)) := (Below.refl _ _).alloc (Nat.le_refl _) _
    exact ⟨hKs.later hb, row_below hkey hb, Kept.later hb (by omega), by rw [alloc_at, if_pos rfl]⟩
  clear hKs hkey hr hV hask
  obtain ⟨pb, hpbe⟩ : ∃ pb, w.heap.size = pb := ⟨_, rfl⟩
  rw [hpbe] at hst
  go_enter Ybaz.func21, Ybaz.ntmps21
  refine wp_seq_k fun K0 hK0 => ?_
  have hK0' : Aside (∀ (a : Act) (w : World), _ → K0 a w) := hK0
  clear hK0
  go_wp2
  refine hK0'.out _ _ ?_
  clear hK0'
  refine wp_seq_k fun K1 hK1 => ?_
  have hK1' : Aside (∀ (a : Act) (w : World), _ → K1 a w) := hK1
  clear hK1
  refine of_r1 b0 len N _ n c p V ks vs nv fv kv xs w _ hst (by omega) _ _ _ _ _ _ _ _ _ _ _ _ _ _ _ _ _ _ _ _ _ _ _ _ _ _ _ _ _ _ _ _ _ _ _ _ _ _ _ _ _ _ _ _ _ _ _ _ _ _ _ _ _ _ _ _ _ _ _ _ _ _ _ _ _ _ _ _ _ _ _ _ _ _ _ _ _ _ _ _ _ _ _ _ _ _ _ _ _ _ _ _ _ _ _ _ _ _ _ _ _ _ _ _ _ _ _ _ _ _ _ _ _ _ _ _ _ _ _ _ _ _ _ _ _ _ _ _ _ _ _ _ (fun w1 p1 c1 e14 e15 e16 e17 e18 e19 e20 e21 hst1 => ?_)
  refine hK1'.out _ _ ?_
  clear hK1' hst
  clear hpbe
  obtain ⟨p0, b6, _⟩ := hst1.cells
  have b1 : w1.cell? ⟨b0 + 2, 1, none⟩ = some nv := Joins.cell_of_block hst1.ks.box 1
  have hA1 : Aside (KeySt w w1 b0 len N pb V ks vs nv fv kv p1 0 c1 []) := hst1
  have hnames := hst1.ks.names
  clear hst1
  subst hnv
  by_cases hl0 : len = 0
  · rw [if_pos hl0] at *
    have hkc : kc = 0 ∧ k = -1 := by
      cases hA.out.2.2 with
      | kept r m hm hr hM hyes => obtain ⟨i, hi, _⟩ := hyes; omega
      | nil => exact ⟨rfl, rfl⟩
      | lost => exact ⟨rfl, rfl⟩
    obtain ⟨rfl, rfl⟩ := hkc
    clear hnames hl0
    go_wp2
    rename_i K2 hK2
    have hK2' : Aside (∀ (a : Act) (w : World), _ → K2 a w) := hK2
    clear hK2
    go_loopg [5, 27] 1 (fun q v5 v27 wr => v5 = .int .i64 0 ∧ v27 = .int .i64 0 ∧ wr = w1)
    case atStart => exact ⟨rfl, rfl, rfl⟩
    case round =>
      obtain ⟨rfl, rfl, hw⟩ := hrel
      rw [hw]
      clear hw wr
      go_wp2
      refine hK2'.out _ _ ?_
      clear hK2'
      exact of_B b0 len N pb 0 c1 0 p1 V ks vs _ fv kv visv (-1) w w1 hA1.out.kept hA1.out.ks (by rw [show kbytes (-1) = [] from rfl]; exact hA1.out.row) (by omega) hA1.out.pb hA.out.1 hA.out.2.1 hks (hA.out.2.2.later hA1.out.kept) (fun e w' => ∃ j : Nat, e = .returned (.int .i64 j) ∧ OfEnd w b0 len N V ks _ fv (-1) j w') (fun w' j h => ⟨j, rfl, h⟩) _ _ _ _ _ _ _ _ _ _ _ _ _ _ _ _ _ _ _ _ _ _ _ _ _ _ _ _ _ _ _ _ _ _ _ _ _ _ _ _ _ _ _ _ _ _ _ _ _ _ _ _ _ _ _ _ _ _ _ _ _ _ _ _ _ _ _ _ _ _ _ _ _ _ _ _ _ _ _ _ _ _ _ _ _ _ _ _ _ _ _ _ _ _ _ _ _ _ _ _ _ _ _ _ _ _ _ _ _ _ _ _ _ _ _ _ _ _ _ _ _ _ _ _ _ _ _ _
  · rw [if_neg hl0] at *
    rw [if_neg hl0] at hnames
    obtain ⟨ng, ncap, hform⟩ := Joins.ownsRow_form hnames (by omega)
    injection hform with hf1 hf2 hf3
    subst hf1 hf3
    clear hf2
    have nm : w1.cell? ⟨ng, 0, none⟩ = some (.string aS) := by have := hnames.cellAt 0 (by omega); simpa using this
    have b00 : w1.cell? ⟨b0 + 2, 0, none⟩ = some (.map (some b0)) := Joins.cell_of_block hA1.out.ks.box 0
    obtain ⟨u, mv, hlk1, hlk2, hlk3, hlk4⟩ := hA.out.2.2.look hA1.out.kept hA1.out.ks.acc hA.out.2.1
    have hAk : Aside (kc = 1 → ∃ m : Nat, k = m ∧ m < 3 ∧ u = valS m) := hlk4
    have hkc2 : kc = 1 ∨ (kc = 0 ∧ k = -1) := by
      cases hA.out.2.2 with
      | kept => exact .inl rfl
      | nil => exact .inr ⟨rfl, rfl⟩
      | lost => exact .inr ⟨rfl, rfl⟩
    clear hnames hl0 hlk4
    go_wp2
    rename_i K2 hK2
    have hK2' : Aside (∀ (a : Act) (w : World), _ → K2 a w) := hK2
    clear hK2
    go_loopg [5, 27] 2 (fun q v5 v27 wr => (q = 2 ∧ v5 = .int .i64 0 ∧ v27 = .int .i64 0 ∧ wr = w1) ∨ (q = 1 ∧ v5 = .int .i64 kc ∧ v27 = .int .i64 1 ∧ ∃ p c, KeySt w wr b0 len N pb V ks vs (.slice (some ⟨ng, 0, none⟩) 1 nc) fv kv p (kbytes k).length c ((kbytes k).map (.int .u8))))
    case atStart => exact .inl ⟨rfl, rfl, rfl, rfl⟩
    case round =>
      obtain ⟨gm, rfl⟩ : ∃ g : Nat, g = gk := ⟨_, rfl⟩
      rcases hrel with ⟨rfl, rfl, rfl, hw⟩ | ⟨rfl, rfl, rfl, p2, c2, hst2⟩
      · rw [hw]
        clear hw wr
        rcases hkc2 with hk1 | ⟨hk0, hkm⟩
        · obtain ⟨m, hkm, hm3, hum⟩ := hAk.out hk1
          subst hkm hum hk1
          have hvsz : (valS m).size = 1 := by rcases (show m = 0 ∨ m = 1 ∨ m = 2 by omega) with rfl | rfl | rfl <;> rfl
          have hAv : Aside ((valS m).size = 1) := hvsz
          clear hvsz
          go_wp2
          go_loopg [45] 3 (fun q v45 wr => ∃ (i : Nat) (p : Option Addr) (c : Nat), v45 = .int .i64 i ∧ i ≤ 2 ∧ 2 - i < q ∧ KeySt w wr b0 len N pb V ks vs (.slice (some ⟨ng, 0, none⟩) 1 nc) fv kv p (3 * i) c (kpart m i))
          case atStart => exact ⟨0, p1, c1, rfl, by omega, by omega, hA1.out⟩
          case round =>
            obtain ⟨i, p2, c2, rfl, hi2, hq, hst2⟩ := hrel
            obtain ⟨hix0, hix1⟩ := index98 aS (valS m) wr
            rcases (show i = 0 ∨ i = 1 ∨ i = 2 by omega) with rfl | rfl | rfl
            · clear hlk1 hlk2 hlk3 nm b00 p0 b6 b1
              go_wp2
              refine of_r11 b0 len N pb (3 * 0) c2 p2 V ks vs _ fv kv (kpart m 0) aS (rfl) w wr hst2 (by omega) _ _ _ _ _ _ _ _ _ _ _ _ _ _ _ _ _ _ _ _ _ _ _ _ _ _ _ _ _ _ _ _ _ _ _ _ _ _ _ _ _ _ _ _ _ _ _ _ _ _ _ _ _ _ _ _ _ _ _ _ _ _ _ _ _ _ _ _ _ _ _ _ _ _ _ _ _ _ _ _ _ _ _ _ _ _ _ _ _ _ _ _ _ _ _ _ _ _ _ _ _ _ _ _ _ _ _ _ _ _ _ _ _ _ _ _ _ _ _ _ _ _ _ _ _ _ _ _ _ _ _ (fun w3 p3 c3 x48 x49 x50 x51 x52 x53 x54 x55 x56 x57 hst3 => ?_)
              clear hst2
              show Exit.then _ _ Exit.normal _ _
              go_wp2
              refine of_r12 b0 len N pb (3 * 0 + 1) c3 p3 V ks vs _ fv kv _ w w3 hst3 (by omega) _ _ _ _ _ _ _ _ _ _ _ _ _ _ _ _ _ _ _ _ _ _ _ _ _ _ _ _ _ _ _ _ _ _ _ _ _ _ _ _ _ _ _ _ _ _ _ _ _ _ _ _ _ _ _ _ _ _ _ _ _ _ _ _ _ _ _ _ _ _ _ _ _ _ _ _ _ _ _ _ _ _ _ _ _ _ _ _ _ _ _ _ _ _ _ _ _ _ _ _ _ _ _ _ _ _ _ _ _ _ _ _ _ _ _ _ _ _ _ _ _ _ _ _ _ _ _ _ _ _ _ _ (fun w4 p4 c4 y58 y59 y60 y61 y62 y63 y64 y65 y66 hst4 => ?_)
              clear hst3
              show Exit.then _ _ Exit.normal _ _
              go_wp2
              refine of_r13 b0 len N pb (3 * 0 + 1 + 1) c4 p4 V ks vs _ fv kv _ aS (rfl) w w4 hst4 (by omega) _ _ _ _ _ _ _ _ _ _ _ _ _ _ _ _ _ _ _ _ _ _ _ _ _ _ _ _ _ _ _ _ _ _ _ _ _ _ _ _ _ _ _ _ _ _ _ _ _ _ _ _ _ _ _ _ _ _ _ _ _ _ _ _ _ _ _ _ _ _ _ _ _ _ _ _ _ _ _ _ _ _ _ _ _ _ _ _ _ _ _ _ _ _ _ _ _ _ _ _ _ _ _ _ _ _ _ _ _ _ _ _ _ _ _ _ _ _ _ _ _ _ _ _ _ _ _ _ _ _ _ (fun w5 p5 c5 z67 z68 z69 z70 z71 z72 z73 z74 z75 hst5 => ?_)
              clear hst4
              have hA5 : Aside (KeySt w w5 b0 len N pb V ks vs (.slice (some ⟨ng, 0, none⟩) 1 nc) fv kv p5 (3 * 1) c5 (kpart m 1)) := by
                have h5 := hst5
                rw [kpart_step0 m, show 3 * 0 + 1 + 1 + aS.size = 3 * 1 by rw [show aS.size = 1 from rfl]] at h5
                exact h5
              clear hst5
              go_wp2
              go_roundg (2 - 0)
              case measure => omega
              case rel => exact ⟨1, p5, c5, by go_num, by omega, by omega, hA5.out⟩
            · clear hlk1 hlk2 hlk3 nm b00 p0 b6 b1
              go_wp2
              refine of_r11 b0 len N pb (3 * 1) c2 p2 V ks vs _ fv kv (kpart m 1) (valS m) (hAv.out) w wr hst2 (by omega) _ _ _ _ _ _ _ _ _ _ _ _ _ _ _ _ _ _ _ _ _ _ _ _ _ _ _ _ _ _ _ _ _ _ _ _ _ _ _ _ _ _ _ _ _ _ _ _ _ _ _ _ _ _ _ _ _ _ _ _ _ _ _ _ _ _ _ _ _ _ _ _ _ _ _ _ _ _ _ _ _ _ _ _ _ _ _ _ _ _ _ _ _ _ _ _ _ _ _ _ _ _ _ _ _ _ _ _ _ _ _ _ _ _ _ _ _ _ _ _ _ _ _ _ _ _ _ _ _ _ _ (fun w3 p3 c3 x48 x49 x50 x51 x52 x53 x54 x55 x56 x57 hst3 => ?_)
              clear hst2
              show Exit.then _ _ Exit.normal _ _
              go_wp2
              refine of_r12 b0 len N pb (3 * 1 + 1) c3 p3 V ks vs _ fv kv _ w w3 hst3 (by omega) _ _ _ _ _ _ _ _ _ _ _ _ _ _ _ _ _ _ _ _ _ _ _ _ _ _ _ _ _ _ _ _ _ _ _ _ _ _ _ _ _ _ _ _ _ _ _ _ _ _ _ _ _ _ _ _ _ _ _ _ _ _ _ _ _ _ _ _ _ _ _ _ _ _ _ _ _ _ _ _ _ _ _ _ _ _ _ _ _ _ _ _ _ _ _ _ _ _ _ _ _ _ _ _ _ _ _ _ _ _ _ _ _ _ _ _ _ _ _ _ _ _ _ _ _ _ _ _ _ _ _ _ (fun w4 p4 c4 y58 y59 y60 y61 y62 y63 y64 y65 y66 hst4 => ?_)
              clear hst3
              show Exit.then _ _ Exit.normal _ _
              go_wp2
              refine of_r13 b0 len N pb (3 * 1 + 1 + 1) c4 p4 V ks vs _ fv kv _ (valS m) (hAv.out) w w4 hst4 (by omega) _ _ _ _ _ _ _ _ _ _ _ _ _ _ _ _ _ _ _ _ _ _ _ _ _ _ _ _ _ _ _ _ _ _ _ _ _ _ _ _ _ _ _ _ _ _ _ _ _ _ _ _ _ _ _ _ _ _ _ _ _ _ _ _ _ _ _ _ _ _ _ _ _ _ _ _ _ _ _ _ _ _ _ _ _ _ _ _ _ _ _ _ _ _ _ _ _ _ _ _ _ _ _ _ _ _ _ _ _ _ _ _ _ _ _ _ _ _ _ _ _ _ _ _ _ _ _ _ _ _ _ (fun w5 p5 c5 z67 z68 z69 z70 z71 z72 z73 z74 z75 hst5 => ?_)
              clear hst4
              have hA5 : Aside (KeySt w w5 b0 len N pb V ks vs (.slice (some ⟨ng, 0, none⟩) 1 nc) fv kv p5 (3 * 2) c5 (kpart m 2)) := by
                have h5 := hst5
                rw [kpart_step1 m hm3, show 3 * 1 + 1 + 1 + (valS m).size = 3 * 2 by rw [show (valS m).size = 1 from hAv.out]] at h5
                exact h5
              clear hst5
              go_wp2
              go_roundg (2 - 1)
              case measure => omega
              case rel => exact ⟨2, p5, c5, by go_num, by omega, by omega, hA5.out⟩
            · have hA5 : Aside (KeySt w wr b0 len N pb V ks vs (.slice (some ⟨ng, 0, none⟩) 1 nc) fv kv p2 (kbytes m).length c2 ((kbytes m).map (.int .u8))) := by
                have h5 := hst2
                rw [show 3 * 2 = (kbytes m).length by rcases (show m = 0 ∨ m = 1 ∨ m = 2 by omega) with rfl | rfl | rfl <;> rfl] at h5
                exact h5
              clear hst2 hlk1 hlk2 hlk3 nm b00 p0 b6 b1
              go_wp2
              go_roundg 1
              case measure => omega
              case rel => exact .inr ⟨rfl, by go_num, by go_num, p2, c2, hA5.out⟩
        · subst hk0 hkm
          have hA5 : Aside (KeySt w w1 b0 len N pb V ks vs (.slice (some ⟨ng, 0, none⟩) 1 nc) fv kv p1 (kbytes (-1)).length c1 ((kbytes (-1)).map (.int .u8))) := hA1.out
          go_wp2
          go_roundg 1
          case measure => omega
          case rel => exact .inr ⟨rfl, rfl, by go_num, p1, c1, hA5.out⟩
      · have hB := of_B b0 len N pb (kbytes k).length c2 kc p2 V ks vs _ fv kv visv k w wr hst2.kept hst2.ks hst2.row (by unfold kbytes; split <;> (try split) <;> (try split) <;> decide) hst2.pb hA.out.1 hA.out.2.1 hks (hA.out.2.2.later hst2.kept) (fun e w' => ∃ j : Nat, e = .returned (.int .i64 j) ∧ OfEnd w b0 len N V ks (.slice (some ⟨ng, 0, none⟩) 1 nc) fv k j w') (fun w' j h => ⟨j, rfl, h⟩)
        clear hst2 hlk1 hlk2 hlk3 nm b00 p0 b6 b1
        go_wp2
        refine hK2'.out _ _ ?_
        exact hB _ _ _ _ _ _ _ _ _ _ _ _ _ _ _ _ _ _ _ _ _ _ _ _ _ _ _ _ _ _ _ _ _ _ _ _ _ _ _ _ _ _ _ _ _ _ _ _ _ _ _ _ _ _ _ _ _ _ _ _ _ _ _ _ _ _ _ _ _ _ _ _ _ _ _ _ _ _ _ _ _ _ _ _ _ _ _ _ _ _ _ _ _ _ _ _ _ _ _ _ _ _ _ _ _ _ _ _ _ _ _ _ _ _ _ _ _ _ _ _ _ _ _ _ _ _ _ _
end Go.Proofs.YbulkcelaGreatDoor
