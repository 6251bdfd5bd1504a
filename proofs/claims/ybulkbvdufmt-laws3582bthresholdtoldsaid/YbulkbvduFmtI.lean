/-
  Seat b3582aF: slices.Grow, newSetInto, NewSet.
-/
import Derived.Test.YbulkbvduFmtB
namespace Go.Proofs.YbulkbvduFmt
open Go.RowKit

set_option maxHeartbeats 2000000 in
theorem grow_nil (w : World) :
    Calls Ybaf.prog 55 #[.slice none 0 0, .int .i64 1] w fun e w' => (∃ cap, 1 ≤ cap ∧ e = .returned (.slice (some ⟨w.heap.size, 0, none⟩) 0 cap) ∧ ∃ cs : List Value, w'.heap[w.heap.size]? = some (.cells (.int .u64 0 :: cs).toArray 91 (0, 0))) ∧ w.heap.size < w'.heap.size ∧ Below w.heap.size w w' := by
  go_enter Ybaf.func55, Ybaf.ntmps55
  go_wp2_with fail
  go_ret
  refine ⟨⟨_, grownCap_ge w 1 0 91, rfl, (Builtin.zeroCells #[.int .u64 0] (grownCap w 1 0 91 - 1)).toList, ?_⟩, by simp, ((Below.refl _ w).alloc (Nat.le_refl _) _).drew⟩
  show (w.heap.push _)[w.heap.size]? = _
  rw [Array.getElem?_push, if_pos rfl]
  have hz : Builtin.zeroCells #[Value.int .u64 0] 1 = #[Value.int .u64 0] := by kernel_rfl
  have ht : ∀ A : Array Value, #[Value.int .u64 0] ++ A = (Value.int .u64 0 :: A.toList).toArray := by intro A; cases A; simp
  rw [hz, ht]
  rfl

end Go.Proofs.YbulkbvduFmt
