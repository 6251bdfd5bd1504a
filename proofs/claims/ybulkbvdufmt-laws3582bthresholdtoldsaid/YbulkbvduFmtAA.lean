/-
  Seat b3582aF: a region that draws its order, in a round of a range over a function.
-/
import Derived.RangeFuncNested
import Derived.RangeFuncCalls
import Derived.Deep.RegionHeld
import Derived.OrdersIn
namespace Go.Proofs.YbulkbvduFmt
open Go.RowKit

/-- Only the plain way out. -/
def Nrm (R : Act → World → Prop) : Exit → Act → World → Prop
  | .normal, a, w => R a w
  | _, _, _ => False

theorem Nrm.intro {R : Act → World → Prop} {a : Act} {w : World} (h : R a w) : Nrm R .normal a w := h

theorem oper_round {P : Program} {o : Oper} {a : Act} {w : World} {K : Act → World → Prop} {Q : Exit → Act → World → Prop} {l n : Nat} (hnd : ∀ c, o.op ≠ .defer c) (h : Oper.wp P o a w K Q) : Oper.wpIn (Fence.wide.inRound l) n P o a w K Q := by
  refine ⟨fun _ _ => trivial, ?_⟩
  rw [Oper.semAt_eq _ _ _ hnd]
  unfold Oper.wp at h
  generalize (execOp a.eval o).run P w = r at h ⊢
  cases r with
  | ok nx w' =>
    cases nx with
    | value v => exact h
    | skip => exact h
    | defer d => exact h
    | enter f args => exact ⟨fun hh => (Bool.noConfusion hh), callsIn_wide.2 h⟩
    | row row args => exact ⟨fun hh => (Bool.noConfusion hh), fun c cs _ => let ⟨v, w', r, s⟩ := h c cs; ⟨v, w', r, stepsIn_wide.2 s⟩⟩
    | _ => exact False.elim h
  | halt hh w' =>
    cases hh with
    | panic v => exact h
    | _ => exact False.elim h

theorem op_round {P : Program} {ops : Array Oper} {R : Act → World → Prop} {i : Nat} {K K' : Act → World → Prop} {a : Act} {w : World} {l n : Nat} (hnd : ∀ o ∈ ops.toList, ∀ c, o.op ≠ .defer c) (hK : ∀ a w, K a w → K' a w)
    (h : wpOp P ops (Nrm R) i K a w) : wpOpIn (Fence.wide.inRound l) n P ops (Nrm R) i K' a w := by
  unfold wpOp at h
  unfold wpOpIn
  cases ho : ops[i]? with
  | none => rw [ho] at h; exact hK _ _ h
  | some o =>
    rw [ho] at h
    simp only at h ⊢
    split at h
    · rename_i hw
      rw [if_pos hw]
      rcases h with h | ⟨_, a', w', h⟩
      · refine Oper.wpIn_mono hK (oper_round (hnd o ?_) h)
        exact List.mem_of_getElem? (by rw [Array.getElem?_toList]; exact ho)
      · exact False.elim h
    · rename_i hw
      rw [if_neg hw]
      exact ⟨fun _ _ => trivial, hK _ _ h⟩

theorem any_round {P : Program} {md : Region.Mode} {ops : Array Oper} {R : Act → World → Prop} {l n : Nat} (hnd : ∀ o ∈ ops.toList, ∀ c, o.op ≠ .defer c) : ∀ (fuel : Nat) (listed : Array Bool) (a : Act) (w : World),
    wpAny P md ops (Nrm R) fuel listed a w → wpAnyIn (Fence.wide.inRound l) n P md ops (Nrm R) fuel listed a w
  | 0, _, _, _, h => h
  | fuel + 1, _, _, _, h => ⟨h.1, fun i hi => op_round hnd (fun a' w' h' => any_round hnd fuel _ a' w' h') (h.2 i hi)⟩

def noDefer (ops : Array Oper) : Bool := ops.toList.all fun o => match o.op with | .defer _ => false | _ => true
theorem noDefer_spec {ops : Array Oper} (h : noDefer ops = true) : ∀ o ∈ ops.toList, ∀ c, o.op ≠ .defer c := fun o ho c e => by
  have := List.all_eq_true.1 h o ho
  simp [e] at this

/-- **A region that draws its order, in a round: as outside of one.** -/
theorem region_round {P : Program} {id : Nat} {ops : Array Oper} {Q : Exit → Act → World → Prop} {S : World → Prop} {a : Act} {w : World} {l n : Nat} (hm : P.follows .mixedOrders = true) (hnd : noDefer ops = true) (hS : S w.drew)
    (h : S w.drew → wpAnyH P .any ops (Nrm (Q .normal)) S ops.size (Array.replicate ops.size false) a w.drew) : (Code.region id ops true).wpIn (Fence.wide.inRound l) n P Q a w := by
  refine wpIn_mono (wpIn_region_any (Q := Nrm (Q .normal)) hm (any_round (noDefer_spec hnd) _ _ _ _ (wpAny_of_held _ _ _ _ (h hS)))) ?_
  intro e a' w' hq
  cases e with
  | normal => exact hq
  | _ => exact False.elim hq

/-- An operation taken first, its slot named. -/
theorem take_at {P : Program} {ops : Array Oper} {Q : Exit → Act → World → Prop} {md : Region.Mode} {S : World → Prop} (i d : Nat) {oi : Oper} {v : Value} {fuel : Nat} {listed : Array Bool} {a : Act} {w : World} (hi : ops[i]? = some oi) (hd : oi.dst = some d)
    (hs : Region.noSelect ops = true) (hf : Region.free md ops listed i = true) (hr : (Region.ready md ops listed).contains i = true) (hQ : ∀ c a a' w, Q (.panic c) a w → Q (.panic c) a' w) (hw : Region.wanted oi (yielded ops a.tmps) = true) (hy : ∀ w, S w → (execOp a.eval oi).run P w = .ok (.value v) w) (hS : S w)
    (h : wpAnyH P md ops Q S fuel (listed.setIfInBounds i true) { tmps := a.tmps.setIfInBounds d v, defers := a.defers } w) : wpAnyH P md ops Q S (fuel + 1) listed a w := by
  refine wpAnyH_take hi hs hf hr (fun c a' w' h' => hQ _ _ _ _ h') (.inl ⟨hw, hy⟩) hS ?_
  unfold Act.put
  rw [hd]
  exact h

end Go.Proofs.YbulkbvduFmt
