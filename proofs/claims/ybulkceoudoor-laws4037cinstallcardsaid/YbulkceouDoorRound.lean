/-
  LawS4037CInstall: a region that draws its order, INSIDE A ROUND, from the plain walk of it (seat b4037aD).
-/
import Derived.Test.YbulkceouDoorForget
import Derived.OrdersHeld
import Derived.OrdersIn
namespace Go.Proofs.YbulkceouDoor
open Go.RowKit Go.Shelf

variable {P : Program} {ops : Array Oper} {Q : Exit → Act → World → Prop} {md : Region.Mode} {l n : Nat}

theorem upon_round {o : Oper} {a : Act} {K K' : Act → World → Prop} (hK : ∀ a w, K a w → K' a w) : ∀ r : Result Next, o.upon P a K Q r → o.uponIn (Fence.wide.inRound l) n P a K' Q r := by
  intro r h
  cases r with
  | ok x w' =>
    cases x with
    | enter f args =>
      refine ⟨fun h => by simp [Fence.wide, Fence.inRound] at h, CallsIn.inRound l (callsIn_wide.2 (Calls.mono h ?_))⟩
      intro e w'' he
      cases e <;> first | exact hK _ _ he | exact he
    | row rw args =>
      refine ⟨fun h => by simp [Fence.wide, Fence.inRound] at h, ?_⟩
      exact fun c cs _ => let ⟨v, w', r, s⟩ := h c cs; ⟨v, w', hK _ _ r, stepsIn_wide.2 s⟩
    | _ => first | exact hK _ _ h | exact h.elim
  | halt x w' => cases x <;> first | exact h | exact h.elim

theorem wpAny_round (hL : ¬ LetsOut Q) (hd : ∀ (i : Nat) (o : Oper), ops[i]? = some o → ∀ c, o.op ≠ .defer c) : ∀ (fuel : Nat) (listed : Array Bool) (a : Act) (w : World), wpAny P md ops Q fuel listed a w → wpAnyIn (Fence.wide.inRound l) n P md ops Q fuel listed a w
  | 0, _, _, _, h => h
  | fuel + 1, listed, a, w, h => ⟨h.1, fun i hi => by
      have h2 := h.2 i hi
      unfold wpOp at h2
      unfold wpOpIn
      cases ho : ops[i]? with
      | none => rw [ho] at h2; exact wpAny_round hL hd fuel _ a w h2
      | some o =>
        rw [ho] at h2
        simp only at h2 ⊢
        split
        · rename_i hw
          rw [if_pos hw] at h2
          refine ⟨fun _ _ => trivial, ?_⟩
          rw [show (Fence.wide.inRound l).round = some l from rfl, Oper.semAt_some l _ o (hd i o ho)]
          exact upon_round (fun a w => wpAny_round hL hd fuel _ a w) _ (h2.resolve_right fun h => hL h.2)
        · rename_i hw
          rw [if_neg hw] at h2
          exact ⟨fun _ _ => trivial, wpAny_round hL hd fuel _ _ w h2⟩⟩

/-- A DRAWING REGION IN A ROUND, FROM THE HELD WALK OF IT. -/
theorem wpIn_region_round {S : World → Prop} {id : Nat} {a : Act} {w : World} (hm : P.follows .mixedOrders = true) (hL : ¬ LetsOut Q) (hd : ∀ (i : Nat) (o : Oper), ops[i]? = some o → ∀ c, o.op ≠ .defer c)
    (h : wpAnyH P .any ops Q S ops.size (Array.replicate ops.size false) a { w with drawn := w.drawn + 1 }) : (Code.region id ops true).wpIn (Fence.wide.inRound l) n P Q a w :=
  wpIn_region_any hm (wpAny_round hL hd _ _ _ _ (wpAny_of_held _ _ _ _ h))

/-- 'append' ONTO A ROW OF THE CALL's OWN, AS ONE STEP OF A REGION THAT DRAWS ITS ORDER: there is room or not. -/
theorem step_append_own {o : Oper} {a : Act} {w : World} {K : Act → World → Prop} {E : Prop}
    (hg : o.guard = none) (s x : Operand) (t : TypeId) (hop : o.op = Op.call { callee := Callee.builtin Builtin.append, args := #[s, x], argTypes := #[t, t] })
    (base : Nat) (e : TypeId) (i : TypeInfo) (z : Value) (size bytes : Nat) (h1 : P.underlying t = some (.slice e)) (h2 : P.info? e = some i) (h3 : i.zero = some z) (h4 : i.size = size) (h5 : i.bytes = bytes) (h6 : z.cells.size = size) (h7 : 0 < size)
    (v : Value) (n : Nat) (xs : List Value) (hs : a.eval s = v) (hown : w.ownsRow base e size v n xs)
    (ad : Addr) (m c : Nat) (news : List Value) (hx : a.eval x = .slice (some ad) m c) (hn : news.length = m * size) (hc : ∀ j u, news[j]? = some u → w.cell? (ad.add j) = some u) (h1c : ∀ u ∈ news, u.oneCell' = true)
    (b1 : n + m ≤ maxLen) (b2 : (n + m) * bytes ≤ 140737488355328) (hbase : base ≤ w.heap.size)
    (hK : ∀ v' w', w'.ownsRow base e size v' (n + m) (xs ++ news) → w.grownBy w' v.ownBlock → K (a.put o.dst v') w') :
    if Region.wanted o (yielded ops a.tmps) = true then Oper.wp P o a w K Q else E := by
  have hw : Region.wanted o (yielded ops a.tmps) = true := by simp [Region.wanted, hg]
  rw [if_pos hw]
  obtain ⟨v', w', hrun, r1, r2, _⟩ := run_append_own (P := P) w base t o.type e i z size bytes h1 h2 h3 h4 h5 h6 h7 v n xs hown ad m c news hn hc h1c b1 b2 hbase
  unfold Oper.wp
  simp [execOp, hop, resolve, invoke, builtin, hs, hx, hrun, Result.andThen]
  exact hK v' w' r1 r2

/-- No operation of the region is a 'defer'. -/
def noDefer (ops : Array Oper) : Bool := ops.all fun o => match o.op with | .defer _ => false | _ => true
theorem noDefer_spec (h : noDefer ops = true) : ∀ (i : Nat) (o : Oper), ops[i]? = some o → ∀ c, o.op ≠ .defer c := fun i o ho c e => by
  obtain ⟨hi, rfl⟩ := Array.getElem?_eq_some_iff.1 ho
  have := Array.all_eq_true.1 h i hi
  rw [e] at this
  cases this

/-- The same, from the world behind the draw; only its end in order is asked. -/
theorem wpIn_region_held {S : World → Prop} {id : Nat} {a : Act} {w : World} (hm : P.follows .mixedOrders = true) (hd : noDefer ops = true) (hS : S w.drew)
    (h : S w.drew → wpAnyH P .any ops (fun e a w => match e with | .normal => Q .normal a w | _ => False) S ops.size (Array.replicate ops.size false) a w.drew) : (Code.region id ops true).wpIn (Fence.wide.inRound l) n P Q a w :=
  wpIn_mono (wpIn_region_round hm (fun ⟨_, _, h⟩ => h) (noDefer_spec hd) (h hS)) (fun e a w q => by cases e <;> first | exact q | exact q.elim)
end Go.Proofs.YbulkceouDoor
