/-
  Seat b3582aF: slices.Clone at sets and at strings.
-/
import Derived.Test.YbulkbvduFmtR
import Derived.Deep.AppendLies
namespace Go.Proofs.YbulkbvduFmt
open Go.RowKit

theorem info9 : (Ybaf.prog.info? 9).map (fun i => (i.zero, i.size, i.bytes)) = some (some (.string ⟨#[]⟩), 1, 16) := by kernel_rfl

set_option maxHeartbeats 1000000 in
theorem clone_set (b off c m : Nat) (vs : List Value) (w : World) (hm : 0 < m) (hm2 : m ≤ 4096) (hl : vs.length = m) (hc : ∀ (i : Nat) (u : Value), vs[i]? = some u → w.cell? ⟨b, off + i, none⟩ = some u) (h1 : ∀ u ∈ vs, u.oneCell' = true) :
    Calls Ybaf.prog 28 #[.slice (some ⟨b, off, none⟩) m c] w fun e w' => ∃ g cap, e = .returned (.slice (some ⟨g, 0, none⟩) m cap) ∧ w.heap.size ≤ g ∧ w'.ownsRow w.heap.size 51 1 (.slice (some ⟨g, 0, none⟩) m cap) m vs ∧ Below w.heap.size w w' := by
  have hq := fun w a n c => Lib.run_eql_slice_nil (P := Ybaf.prog) w 47 51 a n c 0 0 Ybaf.underlying47
  obtain ⟨i0, hi, hz0, hz1, hz2⟩ := info_parts info51'
  have HC : Hid _ := hc
  have H1 : Hid _ := h1
  clear hc h1
  go_enter Ybaf.func28, Ybaf.ntmps28
  go_wp2_with (at_builtin; refine wpList_append_lies _ rfl _ _ 47 rfl w.heap.size 51 i0 (.agg #[.slice none 0 0]) 1 24 Ybaf.underlying47 hi hz0 hz1 hz2 rfl (by decide) (.slice (some ⟨w.heap.size, 0, none⟩) 0 0) 0 [] rfl ⟨rfl, .inr ⟨w.heap.size, 0, #[], rfl, Nat.le_refl _, heap_alloc_new w _, Nat.le_refl _, Nat.zero_le _, rfl, rfl⟩⟩ ⟨b, off, none⟩ m c vs rfl (by omega) ?h1 ?h2 hm (by unfold maxLen; omega) (by omega) (by simp) (w.heap.size + 1) (by simp) ?_)
  case h1 =>
    intro j u hj
    rw [Addr.add_lit]
    exact cell_later ((Below.refl _ w).alloc (Nat.le_refl _) _) (HC.out j u hj)
  case h2 => exact H1.out
  intro g cap w1 hown hgrow hat hlt
  have bel : Below w.heap.size w w1 := ((Below.refl _ w).alloc (Nat.le_refl _) _).grown hgrow (by simp) (fun k hk => by cases hk; exact Nat.le_refl _)
  have hge : w.heap.size ≤ g := by
    rcases hown.2 with ⟨h, _⟩ | ⟨g', cap', cur, hv, hg, _⟩
    · cases h
    · cases hv; exact hg
  have HO : Hid _ := hown
  have HB : Hid _ := bel
  clear hown bel hgrow
  go_wp2_with fail
  go_ret
  exact ⟨g, cap, by simp, hge, HO.out, HB.out⟩

set_option maxHeartbeats 1000000 in
theorem clone_str (b off c m : Nat) (vs : List Value) (w : World) (hm : 0 < m) (hm2 : m ≤ 4096) (hl : vs.length = m) (hc : ∀ (i : Nat) (u : Value), vs[i]? = some u → w.cell? ⟨b, off + i, none⟩ = some u) (h1 : ∀ u ∈ vs, u.oneCell' = true) :
    Calls Ybaf.prog 23 #[.slice (some ⟨b, off, none⟩) m c] w fun e w' => ∃ g cap, e = .returned (.slice (some ⟨g, 0, none⟩) m cap) ∧ Below w.heap.size w w' := by
  have hq := fun w a n c => Lib.run_eql_slice_nil (P := Ybaf.prog) w 22 9 a n c 0 0 Ybaf.underlying22
  obtain ⟨i0, hi, hz0, hz1, hz2⟩ := info_parts info9
  have HC : Hid _ := hc
  have H1 : Hid _ := h1
  clear hc h1
  go_enter Ybaf.func23, Ybaf.ntmps23
  go_wp2_with (at_builtin; refine wpList_append_lies _ rfl _ _ 22 rfl w.heap.size 9 i0 (.string ⟨#[]⟩) 1 16 Ybaf.underlying22 hi hz0 hz1 hz2 rfl (by decide) (.slice (some ⟨w.heap.size, 0, none⟩) 0 0) 0 [] rfl ⟨rfl, .inr ⟨w.heap.size, 0, #[], rfl, Nat.le_refl _, heap_alloc_new w _, Nat.le_refl _, Nat.zero_le _, rfl, rfl⟩⟩ ⟨b, off, none⟩ m c vs rfl (by omega) ?h1 ?h2 hm (by unfold maxLen; omega) (by omega) (by simp) (w.heap.size + 1) (by simp) ?_)
  case h1 =>
    intro j u hj
    rw [Addr.add_lit]
    exact cell_later ((Below.refl _ w).alloc (Nat.le_refl _) _) (HC.out j u hj)
  case h2 => exact H1.out
  intro g cap w1 hown hgrow hat hlt
  have bel : Below w.heap.size w w1 := ((Below.refl _ w).alloc (Nat.le_refl _) _).grown hgrow (by simp) (fun k hk => by cases hk; exact Nat.le_refl _)
  have HB : Hid _ := bel
  clear hown bel hgrow
  go_wp2_with fail
  go_ret
  exact ⟨g, cap, by simp, HB.out⟩

/-- The cells of a row of sets, as a list. -/
theorem SetRow.cells {W : World} {blk : Nat} {D : Nat → Prop} : ∀ (ms : List Nat) (off : Nat), SetRow W blk off D ms → ∃ vs : List Value, vs.length = ms.length ∧ (∀ (i : Nat) (u : Value), vs[i]? = some u → W.cell? ⟨blk, off + i, none⟩ = some u) ∧ (∀ u ∈ vs, u.oneCell' = true)
  | [], _, _ => ⟨[], rfl, by simp, by simp⟩
  | x :: r, off, h => by
    obtain ⟨vs, h1, h2, h3⟩ := SetRow.cells r (off + 1) (fun i y hy => by
      have := h (i + 1) y (by simpa using hy)
      rwa [show off + (i + 1) = off + 1 + i by omega] at this)
    obtain ⟨p, len, cap, c, _, _, _⟩ := h 0 x rfl
    refine ⟨.slice p len cap :: vs, by simp [h1], fun i u hu => ?_, fun u hu => ?_⟩
    · cases i with
      | zero => obtain rfl : _ = u := by simpa using hu
                exact c
      | succ i =>
        have := h2 i u (by simpa using hu)
        rwa [show off + 1 + i = off + (i + 1) by omega] at this
    · rcases List.mem_cons.1 hu with rfl | hu
      · rfl
      · exact h3 u hu

theorem clone_row (b off c : Nat) (ms : List Nat) (w : World) (D : Nat → Prop) (hm : 0 < ms.length) (hm2 : ms.length ≤ 4096) (h : SetRow w b off D ms) :
    Calls Ybaf.prog 28 #[.slice (some ⟨b, off, none⟩) ms.length c] w fun e w' => ∃ g cap, e = .returned (.slice (some ⟨g, 0, none⟩) ms.length cap) ∧ w.heap.size ≤ g ∧ g < w'.heap.size ∧ SetRow w' g 0 (fun b => b < w.heap.size) ms ∧ Below w.heap.size w w' := by
  obtain ⟨vs, h1, h2, h3⟩ := SetRow.cells ms off h
  refine (clone_set b off c ms.length vs w hm hm2 h1 h2 h3).mono ?_
  rintro e w' ⟨g, cap, rfl, hg, hown, hb⟩
  rcases hown.2 with ⟨hv, _⟩ | ⟨g', cap', cur, hv, _, hgb, _, _, _, htk⟩
  · cases hv
  · cases hv
    refine ⟨g, cap, rfl, hg, (Array.getElem?_eq_some_iff.1 hgb).1, fun i x hx => ?_, hb⟩
    obtain ⟨p, len, cp, hc, _, hw, hne⟩ := h i x hx
    have hi : i < ms.length := (List.getElem?_eq_some_iff.1 hx).1
    have hvi : vs[i]? = some (.slice p len cp) := by
      have e : vs[i]? = some (vs[i]'(by omega)) := List.getElem?_eq_getElem _
      have := h2 i _ e
      rw [hc] at this
      rw [e, ← this]
    refine ⟨p, len, cp, ?_, by simp [World.frozen?, hgb], hw.later hb, fun a ha => ?_⟩
    · rw [Nat.zero_add, cell_of_row w' g i cur 51 _ hgb]
      have e2 := congrArg (fun l : List Value => l[i]?) htk
      simp only [Nat.mul_one, hvi] at e2
      rw [List.getElem?_take, if_pos hi] at e2
      simpa using e2
    · have := (hne a ha).2; exact ⟨this, Nat.lt_of_lt_of_le this hb.size⟩

end Go.Proofs.YbulkbvduFmt
