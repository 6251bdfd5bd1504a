/-
  Seat b3582aD: the walk of Unchecked on a profile whose one core is the empty set.
-/
import Derived.Test.YbulkbvduDoorD
import Derived.Test.YbulkbvduDoorF
import Derived.Deep.RegionWith
namespace Go.Proofs.YbulkbvduDoor
open Go.RowKit Go.Shelf

attribute [local go_sem ↓] Go.wp_at_zero Go.wp_at_succ

theorem Ord.below {W W' : World} {ob n i : Nat} (h : Ord W ob n i) (hb : Below W.heap.size W W') : Ord W' ob n i := by
  obtain ⟨cs, h1, h2, h3⟩ := h
  refine ⟨cs, (hb.block ob (Array.getElem?_eq_some_iff.1 h1).1).trans h1, h2, fun j hj => ?_⟩
  obtain ⟨g, cap, cur, k1, k2, k3, k4⟩ := h3 j hj
  exact ⟨g, cap, cur, k1, k2, (hb.block g (Array.getElem?_eq_some_iff.1 k3).1).trans k3, k4⟩

set_option maxHeartbeats 4000000 in
set_option maxRecDepth 100000 in
theorem unchecked_any (pb cb n cap : Nat) (a : Option Addr) (hn : n ≤ 512) (w : World) (c0 : w.cell? ⟨pb, 0, none⟩ = some (.slice a n cap)) (c1 : w.cell? ⟨pb, 1, none⟩ = some (.slice (some ⟨cb, 0, none⟩) 1 1)) (c2 : w.cell? ⟨pb, 2, none⟩ = some (.slice none 0 0)) (c3 : w.cell? ⟨cb, 0, none⟩ = some (.slice none 0 0)) :
    Calls Ybad.prog 4 #[.pointer (some ⟨pb, 0, none⟩)] w fun e w' => ∃ rb ob a1 cc p2 p3, e = .returned (.pointer (some ⟨rb, 0, none⟩)) ∧ w'.cell? ⟨rb, 0, none⟩ = some (.slice a1 0 cc) ∧ w'.cell? ⟨rb, 1, none⟩ = some (.slice (some ⟨ob, 0, none⟩) n n) ∧ w'.cell? ⟨rb, 2, none⟩ = some (.pointer (some p2)) ∧ w'.cell? ⟨rb, 3, none⟩ = some (.pointer (some p3)) ∧ Ord w' ob n n ∧ Below w.heap.size w w' := by
  go_enter Ybad.func4, Ybad.ntmps4
  go_wp2_with fail
  go_region_held3 (fun w' => w'.cell? ⟨pb, 0, none⟩ = some (.slice a n cap) ∧ w'.cell? ⟨pb, 1, none⟩ = some (.slice (some ⟨cb, 0, none⟩) 1 1) ∧ w'.cell? ⟨pb, 2, none⟩ = some (.slice none 0 0) ∧ w'.cell? ⟨cb, 0, none⟩ = some (.slice none 0 0))
    ((go_split_ands; refine ⟨?_, ?_, ?_, ?_⟩ <;> first | exact cell_later (by assumption) (by assumption) | go_keep))
    (first
      | (go_at_call 6; refine (Members_empty _).mono ?_; rintro e w1 ⟨⟨a1, cc, rfl⟩, hb1⟩)
      | (go_at_call 7; refine (orders_any n hn _).mono ?_; rintro e w2 ⟨ob, rfl, hord, hb2⟩)
      | (go_at_call_of 8 (Value.slice none 0 0); refine (index_nil _).mono ?_; rintro e w3 ⟨⟨p2, rfl⟩, hb3⟩)
      | (go_at_call 8; refine (index_one cb 0 1 _ (by simp [*])).mono ?_; rintro e w4 ⟨⟨p3, rfl⟩, hb4⟩))
  have h3 := hb3.trans (hb4.mono hb3.size)
  have h5 : Below w2.heap.size w2 (w4.alloc (.cells #[.slice a1 0 cc, .slice (some ⟨ob, 0, none⟩) n n, .pointer (some p2), .pointer (some p3)] 36)) := h3.alloc h3.size _
  have hb1' : Below w.heap.size w w1 := ⟨hb1.os, hb1.tape, hb1.output, hb1.size, hb1.block⟩
  have h2 := hb1'.trans (hb2.mono hb1'.size)
  have HO : Hid _ := hord.below h5
  have HB : Hid _ := h2.trans (h5.mono h2.size)
  clear hord h5 hb1 hb2 hb3 hb4 hb1' h2 h3
  go_wp2_with fail
  go_ret
  exact ⟨w4.heap.size, ob, a1, cc, p2, p3, rfl, by go_simp, by go_simp, by go_simp, by go_simp, HO.out, HB.out⟩

end Go.Proofs.YbulkbvduDoor
