/-
  Seat b3582aF: a range over an iterator that writes cells of its own between two rounds; a body that never leaves.
-/
import Derived.RangeFuncNested
import Derived.RangeFuncBound
import Derived.RangeFuncCalls
import Derived.RangeFuncLeaves
namespace Go.Proofs.YbulkbvduFmt
open Go.RowKit

/-- How a round's body ends: it goes on; its own invariant, and what the iterator has said, hold. -/
def kept {α : Type} (I : List α → World → Prop) (X : List α → α → World → Prop) (pre : List α) (x : α) (W : World) : Exit → Act → World → Prop
  | .normal, _, W' => KeepsOthers W W' ∧ I (pre ++ [x]) W' ∧ X pre x W'
  | _, _, _ => False

/-- What the iterator owes: J is whatever holds along with I and keeps to blocks that are no cells. -/
def Gives {α : Type} (F : Fence) (n : Nat) (P : Program) (gf : Nat) (lb : Array Value) (encs : α → Array Value) (I : List α → World → Prop) (X : List α → α → World → Prop) (S : List α → Prop) : Prop :=
  ∀ (l : Nat) (J : List α → World → Prop) (W : World), (∀ pre A B, J pre A → I pre B → KeepsOthers A B → J pre B) → (∀ pre A, J pre A → I pre A) →
    (∀ pre x W1, J pre W1 → X pre x W1 → YieldAt F (n - 1) P l (encs x) W1 fun e W' => e = .returned (.bool true) ∧ J (pre ++ [x]) W' ∧ X pre x W') →
    J [] W → CallsIn F n P gf (#[.func (.yield l) #[] #[]] ++ lb) W fun e W' => (∃ v, e = .returned v) ∧ ∃ xs, S xs ∧ J xs W'

theorem range_own {α : Type} {F : Fence} {n : Nat} {P : Program} {g : Operand} {ps : Array Tmp} {assign body : Code} {Q : Exit → Act → World → Prop} {a : Act} {w : World}
    (hro : F.round = none) (h1 : 1 ≤ n) {gf : Nat} {lb : Array Value} (hg : a.eval g = .func (.func gf) #[] lb) (hFg : F.fn gf) (eg : ∀ args w, (callFunc gf args).run P w = .ok (.enter gf args) w)
    {encs : α → Array Value} (hps : ∀ x, (encs x).size = ps.size) {S : List α → Prop} (I : List α → World → Prop) (X : List α → α → World → Prop) (hI : OwnFrom w.heap.size I) (hX : ∀ pre, OwnFrom w.heap.size (X pre))
    (hseq : Gives F (n - 1) P gf lb encs I X S) (h0 : I [] w) (a₁ : α → Act)
    (hassign : ∀ (l : Nat) (x : α) (W : World) (K : Act → World → Prop), K (a₁ x) W →
      assign.wpIn (F.inRound l) (n - 1 - 1) P (Exit.then K (fun _ _ _ => False)) { tmps := (ps.zip (encs x)).foldl (fun t (p, v) => t.setIfInBounds p v) a.tmps, defers := [] } W)
    (hbody : ∀ (l : Nat) (pre : List α) (x : α) (W : World), I pre W → X pre x W → body.wpIn (F.inRound l) (n - 1 - 1) P (kept I X pre x W) (a₁ x) W)
    (hdone : ∀ (D : Nat) (xs : List α) (W : World), w.heap.size ≤ D → S xs → I xs W → W.heap[D]? = some (.deferred (some [])) → Q .normal { a with defers := { target := .collected D, args := #[] } :: a.defers } W) :
    (Code.rangeFunc g ps assign body).wpIn F n P Q a w := by
  refine wpIn_rangeFunc fun fn hfn => ?_
  rw [hro]
  obtain ⟨rec, hrec⟩ : ∃ rec : LoopState → Loop, rec = fun st => { state := st, pending := none, fn, tmps := a.tmps, params := ps, assign, body, defers := w.heap.size } := ⟨_, rfl⟩
  obtain ⟨l, hl⟩ : ∃ l, l = w.heap.size + 1 := ⟨_, rfl⟩
  obtain ⟨W1, hW1⟩ : ∃ W1, W1 = (w.alloc (.deferred (some []))).alloc (.loop (rec .ready)) := ⟨_, rfl⟩
  refine ⟨l, [{ target := .collected w.heap.size, args := #[] }], W1, { target := .fn (.func gf) lb, args := #[.func (.yield l) #[] #[]] }, W1, gf, #[.func (.yield l) #[] #[]] ++ lb, W1, ?_, ?_, ?_, ?_, fun _ => h1, ?_⟩
  · rw [hW1, hrec, hl]; exact run_enterLoop_outer _ _ _ _ _
  · simp only [resolve, hg]; simp [go_sem]
  · intro f' hf'; simp [Target.leads] at hf'; subst hf'; exact hFg
  · simp [invoke, go_sem, eg]
  have own : ∀ {β : Type} {T : β → World → Prop} (_ : OwnFrom w.heap.size T) {s : β} {W : World} {o : Obj} (o' : Obj), T s W → W.heap[l]? = some o → o.isCells = false → T s (W.putObj l o') :=
    fun hT _ _ _ o' hs hh hc => hT.putObj o' hs (by omega) hh hc
  refine (hseq l (fun pre W => I pre W ∧ W.heap[l]? = some (.loop (rec .ready)) ∧ W.heap[w.heap.size]? = some (.deferred (some []))) W1
    (fun pre A B hj hi hk => ⟨hi, hk.same _ _ hj.2.1 rfl, hk.same _ _ hj.2.2 rfl⟩) (fun _ _ h => h.1) ?_ ?_).mono ?_
  · rintro pre x W ⟨hi, hr, hd⟩ hx
    have hlt : l < W.heap.size := (Array.getElem?_eq_some_iff.1 hr).1
    have hy := run_yield (P := P) (args := encs x) hr (by rw [hrec]; exact hps x)
    rw [hrec] at hy
    refine ⟨fn, _, assign, body, hy, roundIn_of_wpIn hfn (hassign l x W _ ⟨_, run_beginRound hr (by rw [hrec]), ?_⟩)⟩
    refine wpIn_mono (hbody l pre x _ (own hI _ hi hr rfl) (own (hX pre) _ hx hr rfl)) ?_
    rintro e a3 W3 hp
    cases e with
    | normal =>
      obtain ⟨hk3, hi3, hx3⟩ := hp
      have hr3 := hk3.same _ _ (World.putObj_heap_same hlt (o := .loop { rec .ready with state := .busy })) rfl
      have hd3 := hk3.same _ _ ((World.putObj_heap_other (o := .loop { rec .ready with state := .busy }) (show w.heap.size ≠ l by omega)).trans hd) rfl
      have he := run_endRound (P := P) none hr3
      refine ⟨_, _, he, rfl, ⟨own hI _ hi3 hr3 rfl, ?_, (World.putObj_heap_other (by omega)).trans hd3⟩, own (hX pre) _ hx3 hr3 rfl⟩
      rw [World.putObj_heap_same (Array.getElem?_eq_some_iff.1 hr3).1, hrec]; rfl
    | ret => exact hp.elim
    | exit id => exact hp.elim
    | goto t => exact hp.elim
    | panic ch => exact hp.elim
    | outgrown => exact hp.elim
  · rw [hW1, hl]
    refine ⟨hI.alloc _ (hI.alloc _ h0), ?_, (Below.heap_alloc _ _ _ (by simp)).trans (World.alloc_heap_new w _)⟩
    have := World.alloc_heap_new (w.alloc (.deferred (some []))) (.loop (rec .ready)); rwa [World.size_alloc] at this
  · rintro e W2 ⟨⟨v, rfl⟩, xs, hS, hi, hr, hd⟩
    have he := run_endLoop (P := P) hr (by rw [hrec]; simp)
    have hp : (rec .ready).pending = none := by rw [hrec]
    rw [hp] at he
    exact ⟨none, _, he, hdone _ xs _ (Nat.le_refl _) hS (own hI _ hi hr rfl) ((World.putObj_heap_other (by omega)).trans hd)⟩

end Go.Proofs.YbulkbvduFmt
