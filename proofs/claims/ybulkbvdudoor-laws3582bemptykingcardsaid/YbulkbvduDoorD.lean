/-
  Seat b3582aD: NewSubsetIndex of no set and of the one empty set.
-/
import Derived.Test.YbulkbvduDoorC
namespace Go.Proofs.YbulkbvduDoor
open Go.RowKit Go.Shelf Go.Maps

set_option maxHeartbeats 1000000 in
theorem index_nil (w : World) : Calls Ybad.prog 8 #[.slice none 0 0] w fun e w' => (∃ a, e = .returned (.pointer (some a))) ∧ Below w.heap.size w w' := by
  go_enter Ybad.func8, Ybad.ntmps8
  go_wp2_with (first | (go_at_call 11; refine (clone_nil _).mono ?_; rintro e w' ⟨rfl, rfl⟩) | (go_at_call 12; refine (sort_small none 0 0 (by decide) _).mono ?_; rintro e w' ⟨rfl, rfl⟩))
  refine wp_loop_rounds 1 ?_
  rw [rounds_succ]
  go_wp2
  go_ret
  exact ⟨⟨_, rfl⟩, (Below.refl _ _).alloc (Nat.le_refl _) _⟩

set_option maxHeartbeats 2000000 in
theorem index_one (b off c : Nat) (w : World) (hc : w.cell? ⟨b, off, none⟩ = some (.slice none 0 0)) :
    Calls Ybad.prog 8 #[.slice (some ⟨b, off, none⟩) 1 c] w fun e w' => (∃ a, e = .returned (.pointer (some a))) ∧ Below w.heap.size w w' := by
  go_enter Ybad.func8, Ybad.ntmps8
  go_wp2_with fail
  refine (clone_one b off c _ hc).mono ?_
  rintro e w1 ⟨g, cap, rfl, hg, hb1⟩
  go_wp2_with fail
  refine (sort_small (some ⟨g, 0, none⟩) cap 1 (by decide) _).mono ?_
  rintro e w' ⟨rfl, rfl⟩
  have HB1 : Hid _ := hb1
  clear hb1 hc
  have hgs : g < w'.heap.size := World.block_lt_of_cell? _ _ hg
  go_wp2_with fail
  refine wp_loop_rounds 2 ?_
  rw [rounds_succ]
  go_wp2_with fail
  refine (add_empty w'.heap.size _ (by go_simp) (by go_simp) (by go_simp) (by go_simp) (by go_simp) (by go_simp)).mono ?_
  rintro e w2 ⟨rfl, hb2⟩
  have HB2 : Hid _ := hb2
  clear hb2
  go_wp2_with fail
  rw [rounds_succ]
  go_wp2_with fail
  go_ret
  refine ⟨⟨_, rfl⟩, ?_⟩
  have h1 := HB1.out
  have h2 := HB2.out
  exact ((h1.alloc h1.size _).alloc (by have := h1.size; simp; omega) _).trans (h2.mono h1.size)

end Go.Proofs.YbulkbvduDoor
