/-
  Seat b3582aF: choices, choicesIn; combinations.
-/
import Derived.Test.YbulkbvduFmtM
import Derived.Maps.AppendAt
import Derived.Maps.OwnIn
import Derived.Deep.OwnRows
import Derived.Deep.AppendLies
namespace Go.Proofs.YbulkbvduFmt
open Go.RowKit Go.Shelf

attribute [local go_sem] Oper.semAt_some

theorem info3 : (Ybaf.prog.info? 3).map (fun i => (i.zero, i.size, i.bytes)) = some (some (.int .i64 0), 1, 8) := by kernel_rfl
theorem info51 : (Ybaf.prog.info? 51).map (fun i => (i.zero, i.size, i.bytes)) = some (some (.agg #[.slice none 0 0]), 1, 24) := by kernel_rfl

/-- The world behind choices. -/
abbrev chW (w : World) (n k : Nat) : World :=
  ((w.alloc (.cells (madeCells #[.int .i64 0] k) 3)).alloc (.cells #[.slice (some ⟨w.heap.size, 0, none⟩) k k] 31)).alloc (.cells #[.int .i64 (n : Nat)] 3)

set_option maxHeartbeats 1000000 in
theorem in_any (n k g : Nat) (w : World) : Calls Ybaf.prog 35 #[.slice (some ⟨g, 0, none⟩) k k, .int .i64 (n : Nat)] w fun e w' =>
    e = .returned (.func (.func 54) #[] #[.pointer (some ⟨w.heap.size, 0, none⟩), .pointer (some ⟨w.heap.size + 1, 0, none⟩)]) ∧ w' = (w.alloc (.cells #[.slice (some ⟨g, 0, none⟩) k k] 31)).alloc (.cells #[.int .i64 (n : Nat)] 3) := by
  go_enter Ybaf.func35, Ybaf.ntmps35
  go_wp2
  go_ret
  exact ⟨rfl, rfl⟩

set_option maxHeartbeats 1000000 in
theorem choices_any (n k : Nat) (hk : k ≤ 12) (w : World) : Calls Ybaf.prog 24 #[.int .i64 (n : Nat), .int .i64 (k : Nat)] w fun e w' =>
    e = .returned (.func (.func 54) #[] #[.pointer (some ⟨w.heap.size + 1, 0, none⟩), .pointer (some ⟨w.heap.size + 2, 0, none⟩)]) ∧ w' = chW w n k := by
  have hmake := fun W => run_make_row' (P := Ybaf.prog) 31 3 (.int .i64 0) 8 Ybaf.underlying31 info3 rfl .i64 .i64 k (by omega) (by omega) W
  go_enter Ybaf.func24, Ybaf.ntmps24
  go_wp2_with (go_at_call 35; refine (in_any n k _ _).mono ?_; rintro e w' ⟨rfl, rfl⟩)
  go_ret
  exact ⟨by simp, rfl⟩

end Go.Proofs.YbulkbvduFmt
