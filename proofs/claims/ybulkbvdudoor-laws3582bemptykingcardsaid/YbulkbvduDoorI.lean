/-
  Seat b3582aD: the walk of LawS3582BEmptyKing.
-/
import Derived.Test.YbulkbvduDoorG
import Derived.Test.YbulkbvduDoorH
namespace Go.Proofs.YbulkbvduDoor
open Go.RowKit Go.Shelf

set_option maxHeartbeats 1000000 in
theorem king_long (a : Option Addr) (n cap : Nat) (hn : 512 < n) (w : World) :
    Calls Ybad.prog 3 #[.slice a n cap] w fun e w' => e = .returned (.bool true) ∧ Below w.heap.size w w' := by
  have h' : (512 : Int) < (n : Int) := by omega
  go_enter Ybad.func3, Ybad.ntmps3
  go_wp2_with fail
  go_ret
  exact ⟨rfl, Below.refl _ _⟩

set_option maxHeartbeats 2000000 in
theorem king_short (a : Option Addr) (n cap : Nat) (hn : n ≤ 512) (w : World) :
    Calls Ybad.prog 3 #[.slice a n cap] w fun e w' => e = .returned (.bool true) ∧ Below w.heap.size w w' := by
  have h' : ¬ (512 : Int) < (n : Int) := by omega
  have hb0 : ((n : Int) != (n : Int)) = false := by simp
  go_enter Ybad.func3, Ybad.ntmps3
  go_wp2_with fail
  refine (unchecked_any (w.heap.size + 1) w.heap.size n cap a hn _ (by go_simp) (by go_simp) (by go_simp) (by go_simp)).mono ?_
  rintro e w1 ⟨rb, ob, a1, cc, p2, p3, rfl, k0, k1, k2, k3, hord, hb⟩
  have d0 : w1.cell? ⟨w.heap.size + 1, 0, none⟩ = some (.slice a n cap) := cell_later hb (by go_simp)
  have d1 : w1.cell? ⟨w.heap.size + 1, 1, none⟩ = some (.slice (some ⟨w.heap.size, 0, none⟩) 1 1) := cell_later hb (by go_simp)
  have HO : Hid _ := hord
  have HB : Hid (Below w.heap.size w w1) := (((Below.refl _ w).alloc (Nat.le_refl _) _).alloc (by simp) _).trans (hb.mono (by simp; omega))
  clear hord hb
  go_wp2_with fail
  refine (borders_true ob n hn _ HO.out).mono ?_
  rintro e w' ⟨rfl, rfl⟩
  go_wp2_with fail
  go_ret
  exact ⟨rfl, HB.out⟩

end Go.Proofs.YbulkbvduDoor
