/-
  Seat b3582aD: slices.Clone, slices.SortFunc at no set and at one set; appendKey of the empty set.
-/
import Derived.Test.YbulkbvduDoorA
import Derived.Deep.AppendLies
import Derived.Deep.RegionHeld3
import Derived.Deep.DrawnRows
namespace Go.Proofs.YbulkbvduDoor
open Go.RowKit Go.Shelf

attribute [local go_sem] Oper.semAt_some

theorem info26 : (Ybad.prog.info? 26).map (fun i => (i.zero, i.size, i.bytes)) = some (some (.agg #[.slice none 0 0]), 1, 24) := by kernel_rfl
theorem info3 : (Ybad.prog.info? 3).map (fun i => (i.zero, i.size, i.bytes)) = some (some (.int .i64 0), 1, 8) := by kernel_rfl

set_option maxHeartbeats 1000000 in
theorem clone_nil (w : World) : Calls Ybad.prog 11 #[.slice none 0 0] w fun e w' => e = .returned (.slice none 0 0) ∧ w' = w := by
  have hq := fun w a n c => Lib.run_eql_slice_nil (P := Ybad.prog) w 27 26 a n c 0 0 Ybad.underlying27
  go_enter Ybad.func11, Ybad.ntmps11
  go_wp2
  go_ret
  exact ⟨rfl, rfl⟩

set_option maxHeartbeats 1000000 in
theorem clone_one (b off c : Nat) (w : World) (hc : w.cell? ⟨b, off, none⟩ = some (.slice none 0 0)) :
    Calls Ybad.prog 11 #[.slice (some ⟨b, off, none⟩) 1 c] w fun e w' => ∃ g cap, e = .returned (.slice (some ⟨g, 0, none⟩) 1 cap) ∧ w'.cell? ⟨g, 0, none⟩ = some (.slice none 0 0) ∧ Below w.heap.size w w' := by
  have hq := fun w a n c => Lib.run_eql_slice_nil (P := Ybad.prog) w 27 26 a n c 0 0 Ybad.underlying27
  obtain ⟨i0, hi, hz0, hz1, hz2⟩ := info_parts info26
  have hb : b < w.heap.size := World.block_lt_of_cell? _ _ hc
  go_enter Ybad.func11, Ybad.ntmps11
  go_wp2_with (at_builtin; refine wpList_append_lies _ rfl _ _ 27 rfl w.heap.size 26 i0 (.agg #[.slice none 0 0]) 1 24 Ybad.underlying27 hi hz0 hz1 hz2 rfl (by decide) (.slice (some ⟨w.heap.size, 0, none⟩) 0 0) 0 [] rfl ⟨rfl, .inr ⟨w.heap.size, 0, #[], rfl, Nat.le_refl _, heap_alloc_new w _, Nat.le_refl _, Nat.zero_le _, rfl, rfl⟩⟩ ⟨b, off, none⟩ 1 c [.slice none 0 0] rfl rfl ?h1 ?h2 (by decide) (by decide) (by decide) (by simp) (w.heap.size + 1) (by simp) ?_)
  case h1 =>
    intro j u hj
    match j, hj with
    | 0, hj =>
      simp at hj
      subst hj
      simp only [Addr.add]
      exact cell_later ((Below.refl _ w).alloc (Nat.le_refl _) _) hc
    | j + 1, hj => simp at hj
  case h2 => intro u hu; simp at hu; subst hu; rfl
  intro g cap w1 hown hgrow hat hlt
  have bel : Below w.heap.size w w1 := ((Below.refl _ w).alloc (Nat.le_refl _) _).grown hgrow (by simp) (fun k hk => by cases hk; exact Nat.le_refl _)
  have hcell : w1.cell? ⟨g, 0, none⟩ = some (.slice none 0 0) := by
    rcases hown.2 with ⟨h, _⟩ | ⟨g', cap', cur, hv, _, hg, h1, _, h3, h4⟩
    · cases h
    · cases hv
      have := World.news_of_block (cs := cur) hg 0 (.slice none 0 0) (by
        have e := congrArg (fun l => l[0]?) h4
        simpa using e)
      simpa [Addr.add] using this
  go_wp2
  go_ret
  exact ⟨g, cap, rfl, hcell, bel⟩

abbrev cmp13 : Value := .func (.func 13) #[] #[]

set_option maxHeartbeats 1000000 in
theorem ins_small (a : Option Addr) (c n : Nat) (hn : n ≤ 1) (w : World) : Calls Ybad.prog 23 #[.slice a n c, .int .i64 0, .int .i64 n, cmp13] w fun e w' => e = .returned (.tuple #[]) ∧ w' = w := by
  go_enter Ybad.func23, Ybad.ntmps23
  go_wp2
  refine wp_loop_rounds 1 ?_
  rw [rounds_succ]
  go_wp2
  go_end0
  exact ⟨rfl, rfl⟩

set_option maxHeartbeats 1000000 in
set_option maxRecDepth 100000 in
theorem pdq_small (a : Option Addr) (c n : Nat) (lim : Int) (hn : n ≤ 1) (w : World) : Calls Ybad.prog 18 #[.slice a n c, .int .i64 0, .int .i64 n, .int .i64 lim, cmp13] w fun e w' => e = .returned (.tuple #[]) ∧ w' = w := by
  go_enter Ybad.func18, Ybad.ntmps18
  go_wp2
  refine wp_loop_rounds 1 ?_
  rw [rounds_succ]
  go_wp2_with (go_at_call 23; refine (ins_small a c n hn _).mono ?_; rintro e w' ⟨rfl, rfl⟩)
  exact bodyPost_ret (results_none rfl _ _ _) rfl ⟨rfl, rfl⟩

set_option maxHeartbeats 1000000 in
set_option maxRecDepth 100000 in
theorem sort_small (a : Option Addr) (c n : Nat) (hn : n ≤ 1) (w : World) : Calls Ybad.prog 12 #[.slice a n c, cmp13] w fun e w' => e = .returned (.tuple #[]) ∧ w' = w := by
  have h01 : n = 0 ∨ n = 1 := by omega
  rcases h01 with rfl | rfl
  · go_enter Ybad.func12, Ybad.ntmps12
    go_wp2_with (first | (go_at_call 18; refine (pdq_small a c 0 _ (by decide) _).mono ?_; rintro e w' ⟨rfl, rfl⟩) | go_in)
    go_end0
    exact ⟨rfl, rfl⟩
  · go_enter Ybad.func12, Ybad.ntmps12
    go_wp2_with (first | (go_at_call 18; refine (pdq_small a c 1 _ (by decide) _).mono ?_; rintro e w' ⟨rfl, rfl⟩) | go_in)
    go_end0
    exact ⟨rfl, rfl⟩

set_option maxHeartbeats 1000000 in
theorem key_empty (w : World) : Calls Ybad.prog 22 #[set0, .slice none 0 0] w fun e w' => e = .returned (.slice none 0 0) ∧ w' = w.alloc (.cells #[.slice none 0 0] 26) := by
  go_enter Ybad.func22, Ybad.ntmps22
  go_wp2
  refine wp_loop_rounds 1 ?_
  rw [rounds_succ]
  go_wp2
  go_ret
  exact ⟨rfl, rfl⟩

end Go.Proofs.YbulkbvduDoor
