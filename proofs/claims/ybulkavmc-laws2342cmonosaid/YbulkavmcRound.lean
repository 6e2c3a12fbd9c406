/-
  A region that draws its order, IN A ROUND of a range over a function: from the walk over held cells, as outside a round.
-/
import Derived.Test.YbulkavmcMask
import Derived.OrdersHeld
import Derived.Deep.RegionHeld
namespace Go.Proofs.Ybulkavmc.Ns
open Go.RowKit

variable {P : Program} {ops : Array Oper} {Q : Exit → Act → World → Prop}

theorem oper_round (l n : Nat) {o : Oper} {a : Act} {w : World} {K : Act → World → Prop} (hd : ∀ c, o.op ≠ .defer c) (h : o.wp P a w K Q) : o.wpIn (Fence.wide.inRound l) n P a w K Q := by
  refine ⟨fun _ _ => trivial, ?_⟩
  rw [show (Fence.wide.inRound l).round = some l from rfl, Oper.semAt_some l _ _ hd]
  unfold Oper.wp at h
  generalize (execOp a.eval o).run P w = r at *
  cases r with
  | ok x w' =>
    cases x <;> simp only [Oper.upon, Oper.uponIn] at h ⊢
    case value => exact h
    case skip => exact h
    case defer => exact h
    case enter f args => exact ⟨fun hh => by simp [Fence.wide] at hh, CallsIn.inRound l (callsIn_wide.2 h)⟩
    case row row args =>
      refine ⟨fun hh => by simp [Fence.wide] at hh, fun c cs _ => ?_⟩
      obtain ⟨v, w', r, s⟩ := h c cs
      exact ⟨v, w', r, stepsIn_wide.2 s⟩
  | halt x w' =>
    cases x <;> simp only [Oper.upon, Oper.uponIn] at h ⊢
    case panic => exact h

theorem op_round (l n : Nat) {i : Nat} {a : Act} {w : World} {K : Act → World → Prop} (hd : ∀ (j : Nat) (o : Oper), ops[j]? = some o → ∀ c, o.op ≠ .defer c) (hQ : ¬ LetsOut Q) (h : wpOp P ops Q i K a w) :
    wpOpIn (Fence.wide.inRound l) n P ops Q i K a w := by
  unfold wpOp at h
  unfold wpOpIn
  cases ho : ops[i]? with
  | none => simpa [ho] using h
  | some o =>
    simp only [ho] at h ⊢
    split
    · rename_i hw
      rw [if_pos hw] at h
      rcases h with h | ⟨_, h⟩
      · exact oper_round l n (hd i o ho) h
      · exact absurd h hQ
    · rename_i hw
      rw [if_neg hw] at h
      exact ⟨fun _ _ => trivial, h⟩

theorem any_round (l n : Nat) {md : Region.Mode} (hd : ∀ (j : Nat) (o : Oper), ops[j]? = some o → ∀ c, o.op ≠ .defer c) (hQ : ¬ LetsOut Q) :
    ∀ (fuel : Nat) (listed : Array Bool) (a : Act) (w : World), wpAny P md ops Q fuel listed a w → wpAnyIn (Fence.wide.inRound l) n P md ops Q fuel listed a w
  | 0, _, _, _, h => h
  | fuel + 1, _, _, _, h => ⟨h.1, fun i hi => wpOpIn_mono (fun a' w' h' => any_round l n hd hQ fuel _ a' w' h') (op_round l n hd hQ (h.2 i hi))⟩

/-- The beginning, in a round. -/
theorem region_round (l n : Nat) {id : Nat} {S : World → Prop} {a : Act} {w : World} (hm : P.follows .mixedOrders = true) (hd : (ops.all fun o => match o.op with | .defer _ => false | _ => true) = true) (hQ : ¬ LetsOut Q) (hS : S w.drew)
    (h : S w.drew → wpAnyH P .any ops Q S ops.size (Array.replicate ops.size false) a w.drew) : (Code.region id ops true).wpIn (Fence.wide.inRound l) n P Q a w := by
  refine wpIn_region_any hm (any_round l n (fun j o ho c hc => ?_) hQ _ _ _ _ (wpAny_of_held _ _ _ _ (h hS)))
  have := Array.all_eq_true_iff_forall_mem.1 hd o (Array.mem_of_getElem? ho)
  rw [hc] at this
  cases this

/-- Take number i first; its slot and its value are said. -/
theorem take_at (i d : Nat) (v : Value) {md : Region.Mode} {S : World → Prop} {oi : Oper} {fuel : Nat} {listed : Array Bool} {tmps : Array Value} {w : World} (hi : ops[i]? = some oi) (hdst : oi.dst = some d)
    (hs : Region.noSelect ops = true) (hf : Region.free md ops listed i = true) (hr : (Region.ready md ops listed).contains i = true)
    (hQ : ∀ c a w, ¬ Q (.panic c) a w) (hw : Region.wanted oi (yielded ops tmps) = true) (hy : ∀ w, S w → (execOp (Act.eval { tmps := tmps, defers := [] }) oi).run P w = .ok (.value v) w) (hS : S w)
    (h : wpAnyH P md ops Q S fuel (listed.setIfInBounds i true) { tmps := tmps.setIfInBounds d v, defers := [] } w) : wpAnyH P md ops Q S (fuel + 1) listed { tmps := tmps, defers := [] } w := by
  refine wpAnyH_take (v := v) hi hs hf hr (fun c a w h => absurd h (hQ c _ w)) (Or.inl ⟨hw, hy⟩) hS ?_
  rw [hdst]
  exact h

/-- Pass over number i, whose guard says no. -/
theorem skip_at (i d : Nat) {md : Region.Mode} {S : World → Prop} {oi : Oper} {fuel : Nat} {listed : Array Bool} {tmps : Array Value} {w : World} (hi : ops[i]? = some oi) (hdst : oi.dst = some d)
    (hs : Region.noSelect ops = true) (hf : Region.free md ops listed i = true) (hr : (Region.ready md ops listed).contains i = true)
    (hQ : ∀ c a w, ¬ Q (.panic c) a w) (hw : Region.wanted oi (yielded ops tmps) = false) (hS : S w)
    (h : wpAnyH P md ops Q S fuel (listed.setIfInBounds i true) { tmps := tmps.setIfInBounds d undef, defers := [] } w) : wpAnyH P md ops Q S (fuel + 1) listed { tmps := tmps, defers := [] } w := by
  refine wpAnyH_take (v := undef) hi hs hf hr (fun c a w h => absurd h (hQ c _ w)) (Or.inr ⟨hw, rfl⟩) hS ?_
  rw [hdst]
  exact h

end Go.Proofs.Ybulkavmc.Ns
