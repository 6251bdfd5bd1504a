/-
  Seat b3582aF: Set.Members.
-/
import Derived.Test.YbulkbvduFmtY
namespace Go.Proofs.YbulkbvduFmt
open Go.RowKit Go.Shelf

attribute [local go_sem] Oper.semAt_some

set_option maxRecDepth 100000 in
set_option maxHeartbeats 4000000 in
theorem Members_any (p : Option Addr) (len cap x : Nat) (hx0 : memL 12 x ≠ []) (w : World) (hw : Wd w p len (x : Int)) (hT : Tab w) : Calls Ybaf.prog 15 #[setV p len cap] w fun e w' =>
    ∃ g cap', e = .returned (.slice (some ⟨g, 0, none⟩) (memL 12 x).length cap') ∧ (∀ (j q : Nat), (memL 12 x)[j]? = some q → w'.cell? ⟨g, j, none⟩ = some (.int .i64 (q : Nat))) ∧ w.heap.size ≤ g ∧ Below w.heap.size w w' := by
  refine (callsIn_wide (n := 5)).1 ?_
  refine callsIn_of_wp_marks Ybaf.func15 rfl trivial ?_ rfl
  simp only [Ybaf.ntmps15, List.size_toArray, List.length_cons, List.length_nil, Nat.reduceAdd, Nat.reduceSub, Array.replicate_succ, Array.replicate_zero, List.push_toArray, List.append_toArray, List.nil_append, List.cons_append]
  obtain ⟨k, hk⟩ : ∃ k : Nat, k = pop 12 x := ⟨_, rfl⟩
  have hpb : k ≤ 12 := by
    have : ∀ k y, pop k y ≤ k := by
      intro k
      induction k with
      | zero => intro y; simp [pop]
      | succ k ih => intro y; have := ih (y / 2); simp only [pop]; omega
    rw [hk]; exact this 12 x
  obtain ⟨i3, hi3, hz0, hz1, hz2⟩ := info_parts info3
  obtain ⟨mk, hmk⟩ : ∃ mk : Array Value, mk = madeCells (Value.int .i64 0).cells (k * 1) := ⟨_, rfl⟩
  have hmks : mk.size = k := by rw [hmk, size_madeCells]; omega
  have hmake : ∀ W, (Instr.makeSlice 31 (.int .i64 0) (.int .i64 (k : Int))).run Ybaf.prog W = .ok (.slice (some ⟨W.heap.size, 0, none⟩) 0 k) (W.alloc (.cells mk 3)) := fun W => by
    have := run_make (P := Ybaf.prog) W 31 3 i3 (.int .i64 0) Ybaf.underlying31 hi3 hz0 .i64 .i64 0 (k : Int) (by omega) (by omega) (by rw [hz2]; omega) (by omega)
    rw [hmk, this, hz1]
    simp
  have HL : Hid _ := fun (W : World) (hb : Below w.heap.size w W) => len_any p len cap (x : Int) W (hw.later hb)
  simp only [Int.toNat_natCast, ← hk] at HL
  have HMS : Hid _ := hmks
  clear hmk hk hmks
  gi_wp2_with (first
    | (refine ⟨trivial, ?_⟩; gi_at_call 26; refine (callsIn_wide.2 (HL.out _ ((Below.refl _ w).alloc (Nat.le_refl _) _))).mono ?_; rintro e W1 ⟨rfl, hb1, hd1⟩; have hc1 : W1.cell? ⟨w.heap.size, 0, none⟩ = some (.slice p len cap) := (hb1.cell (by simp)).trans (by go_simp); have hs1 : w.heap.size < W1.heap.size := World.block_lt_of_cell? _ _ hc1)
    | (refine ⟨trivial, ?_⟩; gi_at_call 27; refine (callsIn_wide.2 (mem_any p len cap _)).mono ?_; rintro e w' ⟨rfl, rfl⟩))
  obtain ⟨B, hB⟩ : ∃ B, B = W1.heap.size := ⟨_, rfl⟩
  obtain ⟨W0, hW0⟩ : ∃ W0, W0 = ((W1.alloc (.cells mk 3)).alloc (.cells #[.slice (some ⟨W1.heap.size, 0, none⟩) 0 k] 31)).alloc (.cells #[.slice p len cap] 51) := ⟨_, rfl⟩
  have hw1 : Below w.heap.size w W1 := ((Below.refl _ w).alloc (Nat.le_refl _) _).trans (hb1.mono (by simp))
  have hb0 : Below W1.heap.size W1 W0 := by rw [hW0]; exact (((Below.refl _ W1).alloc (Nat.le_refl _) _).alloc (by simp) _).alloc (by simp; omega) _
  have hbw : Below w.heap.size w W0 := hw1.trans (hb0.mono (by omega))
  have hsz : W0.heap.size = B + 3 := by rw [hW0, hB]; simp
  have h0 : Im w B p len cap x [] W0 := by
    refine ⟨⟨?_, hw.later hbw, tab_below hT hbw (tab_lt hT)⟩, hbw, by omega, .slice (some ⟨B, 0, none⟩) 0 k, ?_, ⟨rfl, .inr ⟨B, k, mk, rfl, Nat.le_refl _, ?_, Nat.zero_le _, by unfold maxLen; omega, by have := HMS.out; omega, by simp⟩⟩⟩
    · rw [hW0, hB]; simpa using Boxed.new ((W1.alloc (.cells mk 3)).alloc (.cells #[.slice (some ⟨W1.heap.size, 0, none⟩) 0 k] 31)) 51 (.slice p len cap)
    · rw [hW0, hB]
      have := Boxed.new (W1.alloc (.cells mk 3)) 31 (.slice (some ⟨W1.heap.size, 0, none⟩) 0 k)
      rw [World.size_alloc] at this
      exact this.alloc _
    · rw [hW0, hB, Below.heap_alloc _ _ _ (by simp; omega), Below.heap_alloc _ _ _ (by simp)]
      exact heap_alloc_new W1 _
  rw [← hW0, ← hB]
  have hwB : w.heap.size ≤ B := by omega
  have HWL : Hid (∀ a, p = some a → len = 1 → a.block < B) := fun a ha h1 => Nat.lt_of_lt_of_le (wd_lt hw a ha h1) hwB
  have HTL : Hid (Ybaf.tz64_ren.g 1 < B) := Nat.lt_of_lt_of_le (tab_lt hT) hwB
  clear hB
  clear hW0 hmake hb1 hd1 hc1 hs1 hb0 hbw HL hw hT hw1
  refine range_own rfl (by decide) (gf := 38) (lb := #[.pointer (some ⟨B + 2, 0, none⟩)]) rfl trivial (enters_of Ybaf.func38 (by kernel_rfl) rfl)
    (encs := fun q : Nat => #[.int .i64 (q : Nat)]) (fun _ => rfl) (S := fun xs => xs = memL 12 x) (Im w B p len cap x) (fun pre q _ => q < 12 ∧ pre.length < 12) (by rw [hsz]; exact Im.own w B p len cap x hwB) (fun _ _ _ _ _ h _ _ => h)
    (members_gives 4 (B + 2) (by decide) p len cap x _ (fun _ _ h => ⟨h.1.1.cell, h.1.2⟩)) h0
    (fun q => { tmps := #[setV p len cap, .pointer (some ⟨w.heap.size, 0, none⟩), .slice none 0 0, .pointer (some ⟨B + 1, 0, none⟩), .int .i64 (q : Nat), .agg #[.slice p len cap], .int .i64 (k : Nat), .slice (some ⟨B, 0, none⟩) 0 k, .agg #[.slice p len cap], .func (.func 38) #[] #[.pointer (some ⟨B + 2, 0, none⟩)], .int .i64 (q : Nat), undef, undef, undef, undef, undef], defers := [] }) ?assign ?body ?done
  case assign =>
    intro l q W K hK
    gi_wp2
    exact hK
  case body =>
    rintro l pre q W ⟨hm, hbel, hs3, v, hbox, hrow⟩ ⟨hq, hl⟩
    have hbc := hbox.cell
    have HM : Hid _ := hm
    have HBl : Hid _ := hbel
    have HBx : Hid _ := hbox
    clear hm
    gi_wp2_with (gi_at_builtin; refine wpListIn_append_own _ rfl _ _ 31 rfl B 3 i3 (.int .i64 0) 1 8 Ybaf.underlying31 hi3 hz0 hz1 hz2 rfl (by decide) _ _ _ rfl (hrow.alloc _) ⟨W.heap.size, 0, none⟩ 1 1 [.int .i64 (q : Nat)] rfl rfl (cell_one_new _ _ _) (by simp [Value.oneCell']) (by unfold maxLen; omega) (by omega) (by simp; omega) ?_; intro v' w1 hown' hgrow _; obtain ⟨g', cap', rfl⟩ := ownsRow_succ hown'; obtain ⟨hv1, hv2, hr2, hk2, hb2⟩ := hbox.appended (by decide) hrow (by omega) (by omega) hown' hgrow; have hc1 := hv1.cell; have hf1 := hv1.frozen)
    obtain ⟨hb51, hwd, htab⟩ := HM.out
    refine ⟨hk2, ⟨⟨?_, wd_below hwd hb2 HWL.out, tab_below htab hb2 HTL.out⟩, hbel.trans (hb2.mono hwB), ?_, _, hv2, ?_⟩, hq, hl⟩
    · have h1 : Boxed w1 (B + 2) 51 (.slice p len cap) := (hb51.alloc _).kept hgrow (hb51.not_row (by decide) hrow)
      exact (Below.heap_setCell _ _ _ _ (by simp)).trans h1
    · have h1 := hgrow.size; simp [World.setCell] at h1 ⊢; omega
    · simpa using hr2
  case done =>
    rintro D ys W hD rfl ⟨hm, hbel, hs3, v, hbox, hrow⟩ hK
    have hbc := hbox.cell
    obtain ⟨n, hn⟩ : ∃ n, (memL 12 x).length = n + 1 := ⟨(memL 12 x).length - 1, by have := List.length_pos_iff.2 hx0; omega⟩
    have hr := hrow
    rw [hn] at hr
    obtain ⟨g, cap', rfl⟩ := ownsRow_succ hr
    have HR : Hid _ := hrow
    have HM : Hid _ := hm
    clear hm hrow hr
    gi_wp2
    refine ⟨by simp, .inl ⟨_, _, rfl, run_takeDeferred hK, ?_⟩⟩
    refine ⟨_, results_tmp rfl _ _ _, g, cap', by rw [hn]; rfl, ?_, ?_, ?_⟩
    · intro j q hj
      rcases HR.out.2 with ⟨h, _⟩ | ⟨g', cap'', cur, hv, _, hgb, _, _, _, htk⟩
      · cases h
      · obtain rfl : g = g' := by simpa [Value.ownBlock] using congrArg Value.ownBlock hv
        refine cell_kept ?_ (grownBy_putObj' W D _) (fun r e => by cases e; exact ⟨_, hK, rfl⟩)
        rw [cell_of_row W _ j cur 3 _ hgb]
        have hjl : j < (memL 12 x).length := (List.getElem?_eq_some_iff.1 hj).1
        have e2 := congrArg (fun l : List Value => l[j]?) htk
        simp only [Nat.mul_one, List.getElem?_map, hj, Option.map_some] at e2
        rw [List.getElem?_take, if_pos hjl] at e2
        simpa using e2
    · rcases HR.out.2 with ⟨h, _⟩ | ⟨g', cap'', cur, hv, hge, _⟩
      · cases h
      · obtain rfl : g = g' := by simpa [Value.ownBlock] using congrArg Value.ownBlock hv
        omega
    · exact hbel.trans (belowK_b (w := W0) (by omega) W D _ _ hD hK rfl rfl)

end Go.Proofs.YbulkbvduFmt
