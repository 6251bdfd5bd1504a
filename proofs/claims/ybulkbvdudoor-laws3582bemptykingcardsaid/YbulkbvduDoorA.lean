/-
  Seat b3582aD: the walks of Set.Len, Set.members, its closure and Set.Members at the empty set.
-/
import Derived.RangeFuncNested
import Derived.RangeFuncBound
import Derived.RangeFuncCalls
import Derived.RangeFuncLeaves
import Derived.Shelf.Abstract
import Derived.WalkKit
import Derived.WalkSpells
import Derived.WalkLawsBesides
import Derived.OwnWalkIn
import Derived.TacticsInMore
import Derived.LoopNIn
import Derived.LoopIn
import Derived.LoopTactic
import Derived.Outline
import Derived.Test.YbulkbvduDoorProg
namespace Go.Proofs.YbulkbvduDoor
open Go.RowKit Go.Shelf

attribute [local go_sem] Oper.semAt_some

abbrev set0 : Value := .agg #[.slice none 0 0]

set_option maxHeartbeats 1000000 in
theorem len_empty (w : World) : Calls Ybad.prog 9 #[set0] w fun e w' => e = .returned (.int .i64 0) ∧ w' = w.alloc (.cells #[.slice none 0 0] 26) := by
  go_enter Ybad.func9, Ybad.ntmps9
  go_wp2
  refine wp_loop_rounds 1 ?_
  rw [rounds_succ]
  go_wp2
  go_ret
  exact ⟨rfl, rfl⟩

set_option maxHeartbeats 1000000 in
theorem members_any (w : World) : Calls Ybad.prog 10 #[set0] w fun e w' => e = .returned (.func (.func 16) #[] #[.pointer (some ⟨w.heap.size, 0, none⟩)]) ∧ w' = w.alloc (.cells #[.slice none 0 0] 26) := by
  go_enter Ybad.func10, Ybad.ntmps10
  go_wp2
  go_ret
  exact ⟨rfl, rfl⟩

set_option maxRecDepth 100000 in
set_option maxHeartbeats 1000000 in
/-- The closure that Set.members hands back, of the empty set: no round. -/
theorem members1_in (n : Nat) (l Bs : Nat) (J : World → Prop) (W : World) (hBs : W.cell? ⟨Bs, 0, none⟩ = some (.slice none 0 0)) (h0 : J W) :
    CallsIn Fence.wide n Ybad.prog 16 #[.func (.yield l) #[] #[], .pointer (some ⟨Bs, 0, none⟩)] W fun e W' => (∃ v, e = .returned v) ∧ J W' := by
  refine callsIn_of_wp Ybad.func16 rfl trivial ?_ rfl
  simp only [Ybad.ntmps16, List.size_toArray, List.length_cons, List.length_nil, Nat.reduceAdd, Nat.reduceSub, Array.replicate_succ, Array.replicate_zero, List.push_toArray, List.append_toArray, List.nil_append, List.cons_append]
  gi_wp2
  gi_loopw [8] (fun i wr => i = .int .i64 0 ∧ J wr) (fun _ _ => 0)
  case atStart => exact ⟨rfl, h0⟩
  case round =>
    obtain ⟨rfl, hJs⟩ := hrel
    gi_wp2
    go_end0
    exact ⟨⟨_, rfl⟩, hJs⟩

/-- .. as the range's law asks it: nothing ever comes. -/
theorem members_stops (n : Nat) (Bs n₀ : Nat) (w : World) (hBs : Bs < w.heap.size) (hc : w.cell? ⟨Bs, 0, none⟩ = some (.slice none 0 0)) :
    SeqStopsK Fence.wide n Ybad.prog 16 #[.pointer (some ⟨Bs, 0, none⟩)] (fun x : Empty => x.elim) (Below n₀) (fun ys => ys = []) (fun _ => False) 0 w := fun l J Jx W hW _ _ hY h0 => by
  have hc' := (hW.cell (p := ⟨Bs, 0, none⟩) hBs).trans hc
  exact (members1_in n l Bs (J []) W hc' h0).mono fun e W' ⟨he, hj⟩ => ⟨he, .inl ⟨_, rfl, hj⟩⟩

set_option maxRecDepth 100000 in
set_option maxHeartbeats 2000000 in
theorem Members_empty (w : World) : Calls Ybad.prog 6 #[set0] w fun e w' => (∃ a c, e = .returned (.slice a 0 c)) ∧ Below w.heap.size w w' := by
  refine (callsIn_wide (n := 5)).1 ?_
  refine callsIn_of_wp_marks Ybad.func6 rfl trivial ?_ rfl
  simp only [Ybad.ntmps6, List.size_toArray, List.length_cons, List.length_nil, Nat.reduceAdd, Nat.reduceSub, Array.replicate_succ, Array.replicate_zero, List.push_toArray, List.append_toArray, List.nil_append, List.cons_append]
  have hmk : ∀ w, (Instr.makeSlice 32 (.int .i64 0) (.int .i64 0)).run Ybad.prog w = .ok (.slice (some ⟨w.heap.size, 0, none⟩) 0 0) (w.alloc (.cells #[] 3)) := fun _ => by kernel_rfl
  gi_wp2_with (first | (refine ⟨trivial, ?_⟩; gi_at_call 9; refine (callsIn_wide.2 (len_empty _)).mono ?_; rintro e w' ⟨rfl, rfl⟩) | (refine ⟨trivial, ?_⟩; gi_at_call 10; refine (callsIn_wide.2 (members_any _)).mono ?_; rintro e w' ⟨rfl, rfl⟩))
  obtain ⟨W0, hW0⟩ : ∃ W0 : World, W0 = ((((w.alloc (.cells #[.slice none 0 0] 26)).alloc (.cells #[.slice none 0 0] 26)).alloc (.cells #[] 3)).alloc (.cells #[.slice (some ⟨w.heap.size + 1 + 1, 0, none⟩) 0 0] 32)).alloc (.cells #[.slice none 0 0] 26) := ⟨_, rfl⟩
  rw [← hW0]
  have hc4 : W0.cell? ⟨w.heap.size + 1 + 1 + 1 + 1, 0, none⟩ = some (.slice none 0 0) := by rw [hW0]; go_simp
  have hc3 : W0.cell? ⟨w.heap.size + 1 + 1 + 1, 0, none⟩ = some (.slice (some ⟨w.heap.size + 1 + 1, 0, none⟩) 0 0) := by rw [hW0]; go_simp
  have hsz : W0.heap.size = w.heap.size + 5 := by rw [hW0]; simp
  have hB0 : Below w.heap.size w W0 := by rw [hW0]; exact ((((((Below.refl _ w).alloc (Nat.le_refl _) _).alloc (by simp) _).alloc (by simp; omega) _).alloc (by simp; omega) _).alloc (by simp; omega) _)
  clear hW0
  refine wpIn_rangeFunc_ownF rfl (by decide) (gf := 16) (lb := #[.pointer (some ⟨w.heap.size + 1 + 1 + 1 + 1, 0, none⟩)]) rfl trivial (enters_of Ybad.func16 (by kernel_rfl) rfl)
    (members_stops 4 (w.heap.size + 1 + 1 + 1 + 1) w.heap.size W0 (by omega) hc4) belowK_t (belowK_b (by omega)) (Below.refl _ _) (fun x => x.elim)
    (fun _ W => Below W0.heap.size W0 W) (fun _ _ _ => False) (ownFrom_below (Nat.le_refl _) (Nat.le_refl _)) (fun _ _ _ _ _ hs _ _ => hs) (Below.refl _ _) (fun x => x.elim) (fun _ x => x.elim) (fun _ _ x => x.elim) ?done ?stop
  case done =>
    rintro D ys W hD rfl hB hK
    have hc3' := cell_later hB hc3
    gi_wp2
    refine ⟨by simp, .inl ⟨_, _, rfl, run_takeDeferred hK, ?_⟩⟩
    exact ⟨_, results_tmp rfl _ _ _, ⟨_, _, rfl⟩, (hB0.trans (hB.mono (by omega))).trans (belowK_b (w := W0) (by omega) W D _ _ hD hK rfl rfl)⟩
  case stop =>
    rintro D c pre W _ h _ _
    exact h.elim

end Go.Proofs.YbulkbvduDoor
