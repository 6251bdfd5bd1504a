/-
  Seat b3582aF: combinations.
-/
import Derived.Test.YbulkbvduFmtN
import Derived.Test.YbulkbvduFmtAA
import Derived.Deep.AppendLies
import Derived.Shelf.RegionOpen
namespace Go.Proofs.YbulkbvduFmt
open Go.RowKit Go.Shelf

attribute [local go_sem] Oper.semAt_some

/-- A row of sets, of one word each, at a slice of the call's own. -/
def Sets (W : World) (base : Nat) (v : Value) (ms : List Nat) : Prop :=
  ∃ vs : List Value, W.ownsRow base 51 1 v ms.length vs ∧ ∀ (i x : Nat), ms[i]? = some x → ∃ g cap, vs[i]? = some (.slice (some ⟨g, 0, none⟩) 1 cap) ∧ base ≤ g ∧ some g ≠ v.ownBlock ∧ W.cell? ⟨g, 0, none⟩ = some (.int .u64 (x : Nat))

theorem Sets.kept {W W' : World} {base : Nat} {v : Value} {ms : List Nat} {row : Option Nat} (h : Sets W base v ms) (hg : W.grownBy W' row) (hr : ∀ r, row = some r → ∃ o : Obj, W.heap[r]? = some o ∧ o.isCells = false) : Sets W' base v ms := by
  obtain ⟨vs, h1, h2⟩ := h
  refine ⟨vs, h1.kept hg ?_, fun i x hx => ?_⟩
  · rcases h1.2 with ⟨rfl, _⟩ | ⟨g, cap, cur, rfl, _, hgb, _⟩
    · exact .inl rfl
    · refine .inr fun e' => ?_
      obtain ⟨o, ho, hc⟩ := hr g (by simpa [Value.ownBlock] using e'.symm)
      rw [hgb] at ho; cases ho; cases hc
  · obtain ⟨g, cap, a, b, c, d⟩ := h2 i x hx
    exact ⟨g, cap, a, b, c, cell_kept d hg hr⟩
theorem Sets.low {W W' : World} {base : Nat} {v : Value} {ms : List Nat} (h : Sets W base v ms) (hb : ∀ b, base ≤ b → b < W.heap.size → W'.heap[b]? = W.heap[b]?) : Sets W' base v ms := by
  obtain ⟨vs, h1, h2⟩ := h
  refine ⟨vs, ⟨h1.1, ?_⟩, fun i x hx => ?_⟩
  · rcases h1.2 with h | ⟨g, cap, cur, e, hge, hgb, r⟩
    · exact .inl h
    · exact .inr ⟨g, cap, cur, e, hge, (hb g hge (Array.getElem?_eq_some_iff.1 hgb).1).trans hgb, r⟩
  · obtain ⟨g, cap, a, b, c, d⟩ := h2 i x hx
    exact ⟨g, cap, a, b, c, (World.cell?_of_block (hb g b (World.block_lt_of_cell? _ _ d))).trans d⟩

theorem owns_later {W W' : World} {base : Nat} {e : TypeId} {size : Nat} {v : Value} {m : Nat} {vs : List Value} (h : W.ownsRow base e size v m vs) (hb : Below W.heap.size W W') : W'.ownsRow base e size v m vs := by
  refine ⟨h.1, ?_⟩
  rcases h.2 with h | ⟨g, cap, cur, e, hge, hgb, r⟩
  · exact .inl h
  · exact .inr ⟨g, cap, cur, e, hge, (hb.block g (Array.getElem?_eq_some_iff.1 hgb).1).trans hgb, r⟩

/-- What holds between two rounds of combinations. -/
def Ic (w : World) (n k : Nat) (pre : List (Nat → Nat)) (W : World) : Prop :=
  Cap (w.heap.size + 1) (w.heap.size + 2) (w.heap.size + 3) n k W ∧ Below w.heap.size w W ∧ ((∀ f ∈ pre, Asc n k f) ∧ (∀ f, pre.head? = some f → ∀ j, j < k → f j = j) ∧ pre.length ≤ 4096) ∧
    w.heap.size + 4 ≤ W.heap.size ∧ ∃ v, Boxed W w.heap.size 47 v ∧ Sets W (w.heap.size + 4) v (pre.map fun f => mask f k)

theorem Ic.own (w : World) (n k : Nat) : OwnFrom (w.heap.size + 4) (Ic w n k) := by
  rintro pre A B row ⟨⟨c1, c2, c3⟩, hb, hp, hs, v, h1, h2⟩ hg hr
  have hr' : ∀ r, row = some r → ∃ o : Obj, A.heap[r]? = some o ∧ o.isCells = false := fun r e => (hr r e).2
  refine ⟨⟨cell_kept c1 hg hr', cell_kept c2 hg hr', fun j hj => ?_⟩, hb.grown hg hb.size (fun q e => by have := (hr q e).1; omega), hp, Nat.le_trans hs hg.size, v, h1.kept hg (fun e' => ?_), h2.kept hg hr'⟩
  · obtain ⟨⟨u, hu⟩, hf⟩ := c3 j hj
    exact ⟨⟨u, cell_kept hu hg hr'⟩, (frozen_kept hu hg hr').trans hf⟩
  · obtain ⟨o, ho, hc⟩ := hr' _ e'.symm
    rw [show A.heap[w.heap.size]? = _ from h1] at ho; cases ho; cases hc
theorem Ic.draws {w : World} {n k : Nat} {pre : List (Nat → Nat)} {W : World} (d : Nat) (h : Ic w n k pre W) : Ic w n k pre (W.drewN d) := by
  obtain ⟨c, hb, hp, hs, v, h1, h2⟩ := h
  exact ⟨c, ⟨hb.os, hb.tape, hb.output, hb.size, hb.block⟩, hp, hs, v, h1, h2⟩
theorem Ic.set {w : World} {n k : Nat} {pre : List (Nat → Nat)} {W : World} (j : Nat) (x : Int) (h : Ic w n k pre W) (hj : j < k) : Ic w n k pre (W.setCell ⟨w.heap.size + 1, j, none⟩ (.int .i64 x)) := by
  obtain ⟨⟨c1, c2, c3⟩, hb, hp, hs, v, h1, h2⟩ := h
  have ho : ∀ b, b ≠ w.heap.size + 1 → (W.setCell ⟨w.heap.size + 1, j, none⟩ (.int .i64 x)).heap[b]? = W.heap[b]? := fun b hb => Below.heap_setCell _ _ _ _ hb
  refine ⟨⟨(World.cell?_of_block (ho _ (by simp))).trans c1, (World.cell?_of_block (ho _ (by simp))).trans c2, fun i hi => ?_⟩, hb.setCell (p := ⟨w.heap.size + 1, j, none⟩) (by simp) _, hp, by simpa [World.setCell] using hs, v, (ho _ (by omega)).trans h1, h2.low (fun b h1 _ => ho b (by omega))⟩
  obtain ⟨⟨u, hu⟩, hf⟩ := c3 i hi
  refine ⟨?_, (World.frozen?_setCell _ _ _ _).trans hf⟩
  by_cases e : i = j
  · subst e; exact ⟨x, World.cell?_setCell_same' _ _ _ (by rw [hu]; rfl)⟩
  · exact ⟨u, (World.cell?_setCell_other _ _ _ _ (by intro h; exact e (congrArg Addr.off h).symm)).trans hu⟩

theorem own_lt {W : World} {base : Nat} {e : TypeId} {size : Nat} {v : Value} {m : Nat} {vs : List Value} (h : W.ownsRow base e size v m vs) {b : Nat} (hb : v.ownBlock = some b) : base ≤ b ∧ b < W.heap.size ∧ ∃ cur, W.heap[b]? = some (.cells cur e (0, 0)) := by
  rcases h.2 with ⟨rfl, _⟩ | ⟨g, cap, cur, rfl, hge, hgb, _⟩
  · simp [Value.ownBlock] at hb
  · obtain rfl : g = b := by simpa [Value.ownBlock] using hb
    exact ⟨hge, (Array.getElem?_eq_some_iff.1 hgb).1, cur, hgb⟩

/-- A round of combinations. -/
theorem Ic.step {w W w2 w1 : World} {n k : Nat} {pre : List (Nat → Nat)} {f : Nat → Nat} {v : Value} {vs : List Value} {g cap g' cap' m : Nat} (hk : 1 ≤ k) (hm : m = pre.length)
    (hcap : Cap (w.heap.size + 1) (w.heap.size + 2) (w.heap.size + 3) n k W) (hbel : Below w.heap.size w W) (hall : ∀ f ∈ pre, Asc n k f) (hhead : ∀ f, pre.head? = some f → ∀ j, j < k → f j = j) (hs4 : w.heap.size + 4 ≤ W.heap.size)
    (hbox : Boxed W w.heap.size 47 v) (hrow : W.ownsRow (w.heap.size + 4) 51 1 v m vs)
    (hels : ∀ (i x : Nat), (pre.map fun f => mask f k)[i]? = some x → ∃ g cap, vs[i]? = some (.slice (some ⟨g, 0, none⟩) 1 cap) ∧ w.heap.size + 4 ≤ g ∧ some g ≠ v.ownBlock ∧ W.cell? ⟨g, 0, none⟩ = some (.int .u64 (x : Nat)))
    (hX : Xs (w.heap.size + 1) n k pre f W) (hb2 : Below W.heap.size W w2) (hg : W.heap.size ≤ g) (hc2 : w2.cell? ⟨g, 0, none⟩ = some (.int .u64 (mask f k : Nat)))
    (hown : w1.ownsRow (w.heap.size + 4) 51 1 (.slice (some ⟨g', 0, none⟩) (m + 1) cap') (m + 1) (vs ++ [.slice (some ⟨g, 0, none⟩) 1 cap])) (hgrow : (w2.alloc (.cells #[.slice (some ⟨g, 0, none⟩) 1 cap] 51)).grownBy w1 v.ownBlock) (hat : v.ownBlock = some g' ∨ g' = w2.heap.size + 1) :
    KeepsOthers W (w1.setCell ⟨w.heap.size, 0, none⟩ (.slice (some ⟨g', 0, none⟩) (m + 1) cap')) ∧ Ic w n k (pre ++ [f]) (w1.setCell ⟨w.heap.size, 0, none⟩ (.slice (some ⟨g', 0, none⟩) (m + 1) cap')) ∧ Xs (w.heap.size + 1) n k pre f (w1.setCell ⟨w.heap.size, 0, none⟩ (.slice (some ⟨g', 0, none⟩) (m + 1) cap')) := by
  have hsz2 := hb2.size
  have hsz1 := hgrow.size
  simp at hsz1
  have hB2 : Boxed w2 w.heap.size 47 v := (hb2.block _ hbox.lt).trans hbox
  have hB1 : Boxed w1 w.heap.size 47 v := (hB2.alloc _).kept hgrow (hbox.not_row (by decide) hrow)
  have blk2 : ∀ b, b < w2.heap.size → b ≠ w.heap.size → some b ≠ v.ownBlock → (w1.setCell ⟨w.heap.size, 0, none⟩ (.slice (some ⟨g', 0, none⟩) (m + 1) cap')).heap[b]? = w2.heap[b]? := fun b h1 h2 h3 => by
    rw [Below.heap_setCell _ _ _ _ h2, hgrow.block b (by simp; omega) h3, Below.heap_alloc _ _ _ h1]
  have blk : ∀ b, b < W.heap.size → b ≠ w.heap.size → some b ≠ v.ownBlock → (w1.setCell ⟨w.heap.size, 0, none⟩ (.slice (some ⟨g', 0, none⟩) (m + 1) cap')).heap[b]? = W.heap[b]? := fun b h1 h2 h3 => by
    rw [blk2 b (by omega) h2 h3, hb2.block b h1]
  have low : ∀ b, b < w.heap.size + 4 → b ≠ w.heap.size → (w1.setCell ⟨w.heap.size, 0, none⟩ (.slice (some ⟨g', 0, none⟩) (m + 1) cap')).heap[b]? = W.heap[b]? := fun b h1 h2 =>
    blk b (by omega) h2 (fun e => by have := (own_lt hrow e.symm).1; omega)
  have hl : pre.length < 4096 := by have := rev_pos f k (by omega); have := hX.2.2.1; omega
  refine ⟨⟨?_, fun b o hb ho => ?_⟩, ⟨⟨?_, ?_, fun j hj => ?_⟩, ?_, ⟨?_, ?_, by simp; omega⟩, ?_, _, hB1.set _, ?_⟩, ?_, hX.2⟩
  · simp [World.setCell]; omega
  · have hlt := (Array.getElem?_eq_some_iff.1 hb).1
    refine (blk b hlt (fun e => ?_) (fun e => ?_)).trans hb
    · subst e; rw [show W.heap[w.heap.size]? = _ from hbox] at hb; cases hb; cases ho
    · obtain ⟨_, _, cur, hc⟩ := own_lt hrow e.symm
      rw [hc] at hb; cases hb; cases ho
  · exact (World.cell?_of_block (low _ (by simp) (by simp))).trans hcap.1
  · exact (World.cell?_of_block (low _ (by simp) (by simp))).trans hcap.2.1
  · obtain ⟨⟨u, hu⟩, hf⟩ := hcap.2.2 j hj
    exact ⟨⟨u, (World.cell?_of_block (low _ (by simp) (by simp))).trans hu⟩, (World.frozen?_of_block (low _ (by simp) (by simp))).trans hf⟩
  · refine hbel.trans ⟨hgrow.os.trans hb2.os, hgrow.tape.trans hb2.tape, hgrow.output.trans hb2.output, by simp [World.setCell]; omega, fun b hb => low b (by omega) (by omega)⟩
  · intro f' hf'
    rcases List.mem_append.1 hf' with h | h
    · exact hall f' h
    · rw [List.mem_singleton.1 h]; exact hX.2.1
  · intro f' hf'
    cases pre with
    | nil => simp at hf'; subst hf'; exact hX.2.2.2 rfl
    | cons a r => exact hhead f' (by simpa using hf')
  · simp [World.setCell]; omega
  · refine ⟨vs ++ [.slice (some ⟨g, 0, none⟩) 1 cap], ?_, fun i x hx => ?_⟩
    · have := hown.kept (grownBy_setCell' w1 w.heap.size (.slice (some ⟨g', 0, none⟩) (m + 1) cap')) (.inr (hB1.not_row (by decide) hown).symm)
      simpa [hm] using this
    · rw [List.map_append] at hx
      have hvl : vs.length = m := by have := hrow.1; omega
      have hml : (pre.map fun f => mask f k).length = m := by simp [hm]
      by_cases hi : i < m
      · rw [List.getElem?_append_left (by omega)] at hx
        obtain ⟨gi, ci, a, b, c, d⟩ := hels i x hx
        have hgi := World.block_lt_of_cell? _ _ d
        simp only at hgi
        refine ⟨gi, ci, by rw [List.getElem?_append_left (by omega)]; exact a, b, ?_, (World.cell?_of_block (blk gi hgi (by omega) c)).trans d⟩
        show some gi ≠ some g'
        rcases hat with h | h
        · rw [← h]; exact c
        · intro e; have : gi = g' := by simpa using e
          omega
      · rw [List.getElem?_append_right (by omega)] at hx
        have hi0 : i - (pre.map fun f => mask f k).length = 0 := by
          by_cases h0 : i - (pre.map fun f => mask f k).length = 0
          · exact h0
          · rw [List.getElem?_eq_none (by simp only [List.map_cons, List.map_nil, List.length_cons, List.length_nil]; omega)] at hx; cases hx
        rw [hi0] at hx
        obtain rfl : mask f k = x := by simpa using hx
        have hg2 := World.block_lt_of_cell? _ _ hc2
        simp only at hg2
        have hgo : some g ≠ v.ownBlock := fun e => by have := (own_lt hrow e.symm).2.1; omega
        refine ⟨g, cap, by rw [List.getElem?_append_right (by omega), hvl, ← hml, hi0]; rfl, by omega, ?_, (World.cell?_of_block (blk2 g hg2 (by omega) hgo)).trans hc2⟩
        show some g ≠ some g'
        rcases hat with h | h
        · rw [← h]; exact hgo
        · intro e; have : g = g' := by simpa using e
          omega
  · intro j hj
    exact (World.cell?_of_block (low _ (by simp) (by simp))).trans (hX.1 j hj)

set_option maxRecDepth 100000 in
set_option maxHeartbeats 4000000 in
theorem comb_any (n k : Nat) (hk : 1 ≤ k) (hkn : k ≤ n) (hn : n ≤ 12) (w : World) : Calls Ybaf.prog 14 #[.int .i64 (n : Nat), .int .i64 (k : Nat)] w fun e w' =>
    ∃ (v : Value) (fs : List (Nat → Nat)), e = .returned v ∧ fs ≠ [] ∧ fs.length ≤ 4096 ∧ (∀ f ∈ fs, Asc n k f) ∧ (∀ f, fs.head? = some f → ∀ j, j < k → f j = j) ∧ Sets w' (w.heap.size + 4) v (fs.map fun f => mask f k) ∧ Below w.heap.size w w' := by
  refine (callsIn_wide (n := 5)).1 ?_
  refine callsIn_of_wp_marks Ybaf.func14 rfl trivial ?_ rfl
  simp only [Ybaf.ntmps14, List.size_toArray, List.length_cons, List.length_nil, Nat.reduceAdd, Nat.reduceSub, Array.replicate_succ, Array.replicate_zero, List.push_toArray, List.append_toArray, List.nil_append, List.cons_append]
  gi_wp2_with (refine ⟨trivial, ?_⟩; gi_at_call 24; refine (callsIn_wide.2 (choices_any n k (by omega) _)).mono ?_; rintro e w' ⟨rfl, rfl⟩)
  obtain ⟨W0, hW0⟩ : ∃ W0, W0 = chW (w.alloc (.cells #[.slice none 0 0] 47)) n k := ⟨_, rfl⟩
  have hsz : W0.heap.size = w.heap.size + 4 := by rw [hW0]; simp
  have h0 : Ic w n k [] W0 := by
    have hm : W0.heap[w.heap.size + 1]? = some (.cells (madeCells #[.int .i64 0] k) 3) := by
      rw [hW0]
      rw [Below.heap_alloc _ _ _ (by simp), Below.heap_alloc _ _ _ (by simp)]
      have := heap_alloc_new (w.alloc (.cells #[.slice none 0 0] 47)) (.cells (madeCells #[.int .i64 0] k) 3)
      rwa [World.size_alloc] at this
    refine ⟨⟨?_, ?_, fun j hj => ?_⟩, ?_, ⟨by simp, by simp, by simp⟩, by omega, .slice none 0 0, ?_, ⟨[], World.ownsRow_nil _ _ _ _, by simp⟩⟩
    · rw [hW0]; go_simp
    · rw [hW0]; go_simp
    · have hz : (madeCells #[Value.int .i64 0] k)[j]? = some (.int .i64 0) := by
        rw [← Array.getElem?_toList, toList_madeCells_one]
        simp [hj]
      exact ⟨⟨0, (cell_of_row W0 _ j _ 3 _ hm).trans hz⟩, by simp [World.frozen?, hm]⟩
    · rw [hW0]; exact ((((Below.refl _ w).alloc (Nat.le_refl _) _).alloc (by simp) _).alloc (by simp; omega) _).alloc (by simp; omega) _
    · rw [hW0]; exact ((((Boxed.new w 47 _).alloc _).alloc _).alloc _)
  rw [← hW0]
  clear hW0
  refine range_own rfl (by decide) (gf := 54) (lb := #[.pointer (some ⟨w.heap.size + 2, 0, none⟩), .pointer (some ⟨w.heap.size + 3, 0, none⟩)]) rfl trivial (enters_of Ybaf.func54 (by kernel_rfl) rfl)
    (encs := encP (w.heap.size + 1) k) (fun _ => rfl) (S := fun xs => xs ≠ []) (Ic w n k) (Xs (w.heap.size + 1) n k) (by rw [hsz]; exact Ic.own w n k) ?hX
    (choices_gives 4 _ _ _ n k (by decide) hk hkn hn _ (fun _ _ h => h.1) (fun _ _ j x h hj => h.set j x hj) (fun _ _ d h => h.draws d)) h0
    (fun _ => { tmps := #[.int .i64 (n : Nat), .int .i64 (k : Nat), undef, undef, .slice none 0 0, .pointer (some ⟨w.heap.size, 0, none⟩), .slice (some ⟨w.heap.size + 1, 0, none⟩) k k, .int .i64 (n : Nat), .int .i64 (k : Nat), .func (.func 54) #[] #[.pointer (some ⟨w.heap.size + 2, 0, none⟩), .pointer (some ⟨w.heap.size + 3, 0, none⟩)], .slice (some ⟨w.heap.size + 1, 0, none⟩) k k, undef, undef, undef, undef, undef, undef], defers := [] }) ?assign ?body ?done
  case hX =>
    rintro pre f A B row ⟨hp, h⟩ hg hr
    exact ⟨fun j hj => cell_kept (hp j hj) hg (fun r e => (hr r e).2), h⟩
  case assign =>
    intro l x W K hK
    gi_wp2
    exact hK
  case body =>
    rintro l pre f W hI hX
    obtain ⟨hcap, hbel, ⟨hall, hhead, hlen⟩, hs4, v, hbox, vs, hrow, hels⟩ := hI
    rw [List.length_map] at hrow
    have HXX : Hid _ := hX
    obtain ⟨hpos, hasc, hrev, hfirst⟩ := hX
    have hmx : Ybaf.prog.follows .mixedOrders = true := by kernel_rfl
    have hd : 1 ≤ 5 - 1 - 1 := by decide
    have hbc := hbox.cell
    have HNew : Hid _ := fun (W' : World) (h : Below W.heap.size W W') => new_any (w.heap.size + 1) 0 k k f W' hk (by omega) (fun j hj => by have := hasc.2 j hj; omega) hasc.1 (fun j hj => cell_later h (by simpa using hpos j hj))
    obtain ⟨i0, hi0, hz0, hz1, hz2⟩ := info_parts info51
    have HBox : Hid _ := fun (w2 w1 : World) (o : Obj) (hb2 : Below W.drew.heap.size W.drew w2) (hg : (w2.alloc o).grownBy w1 v.ownBlock) =>
      have hB2 : Boxed w2 w.heap.size 47 v := (hb2.block _ hbox.lt).trans hbox
      have hB : Boxed w1 w.heap.size 47 v := (hB2.alloc o).kept hg (hbox.not_row (by decide) hrow)
      (⟨hB.cell, hB.frozen⟩ : w1.cell? ⟨w.heap.size, 0, none⟩ = some v ∧ w1.frozen? ⟨w.heap.size, 0, none⟩ = false)
    have HR : Hid _ := hrow
    have HE : Hid _ := hels
    clear hrow hels
    gi_wp2
    refine region_round (S := fun _ => True) hmx (by kernel_rfl) trivial (fun hS => ?_)
    have hbd : W.drew.cell? ⟨w.heap.size, 0, none⟩ = some v := hbc
    refine take_at 1 12 (v := ?vv2) rfl rfl (by kernel_rfl) (by kernel_rfl) (by kernel_rfl) (fun _ _ _ _ h => h) (by rfl) ?hy2 hS ?rest2
    case hy2 => (intro wS hSw; go_simp; try with_reducible rfl)
    simp only [List.setIfInBounds_toArray, List.set_cons_zero, List.set_cons_succ]
    refine wpAnyH_ready (rs := [0, 2]) (by kernel_rfl) (by simp) (AllReadyH.cons rfl (fun K hK => ?_) (AllReadyH.cons rfl (fun K hK => ?_) AllReadyH.nil))
    · go_simp
      refine hK.out _ _ trivial (fun hS => ?_)
      refine wpAnyH_ready (rs := [2]) (by kernel_rfl) (by simp) (AllReadyH.cons rfl (fun K hK => ?_) AllReadyH.nil)
      go_simp
      refine (HNew.out _ (Below.refl _ _).drew).mono ?_
      rintro e w2 ⟨⟨g, cap, hg, rfl, hc2⟩, hb2⟩
      have hbc2 : w2.cell? ⟨w.heap.size, 0, none⟩ = some v := cell_later hb2 hbc
      refine hK.out _ _ trivial (fun hS => ?_)
      refine wpAnyH_ready (rs := [3]) (by kernel_rfl) (by simp) (AllReadyH.cons rfl (fun K hK => ?_) AllReadyH.nil)
      go_simp
      refine hK.out _ _ trivial (fun hS => ?_)
      refine wpAnyH_ready (rs := [4]) (by kernel_rfl) (by simp) (AllReadyH.cons rfl (fun K hK => ?_) AllReadyH.nil)
      refine step_append_lies _ rfl _ _ 47 rfl (w.heap.size + 4) 51 i0 (.agg #[.slice none 0 0]) 1 24 Ybaf.underlying47 hi0 hz0 hz1 hz2 rfl (by decide) v pre.length vs rfl ((owns_later HR.out ((Below.refl _ W).drew.trans hb2)).alloc _) ⟨w2.heap.size, 0, none⟩ 1 1 [.slice (some ⟨g, 0, none⟩) 1 cap] rfl rfl (cell_one_new _ _ _) (by simp [Value.oneCell']) (by decide) (by unfold maxLen; omega) (by omega) (by have := hb2.size; simp at this ⊢; omega) (w2.heap.size + 1) (by simp) ?_
      intro g' cap' w1 hown hgrow hat hlt
      obtain ⟨hc1, hf1⟩ := HBox.out w2 w1 _ hb2 hgrow
      refine hK.out _ _ trivial (fun hS => ?_)
      change wpAnyH _ _ _ _ _ _ _ (Act.put _ (some 15) _) _
      simp only [Act.put, List.setIfInBounds_toArray, List.set_cons_zero, List.set_cons_succ]
      refine wpAnyH_ready (rs := [5]) (by kernel_rfl) (by simp) (AllReadyH.cons rfl (fun K hK => ?_) AllReadyH.nil)
      go_simp
      refine hK.out _ _ trivial (fun _ => ?_)
      refine wpAnyH_done (by kernel_rfl) ?_ _
      refine Nrm.intro ?_
      gi_wp2
      exact Ic.step hk rfl hcap hbel hall hhead hs4 hbox HR.out HE.out HXX.out ((Below.refl _ W).drew.trans hb2) hg hc2 hown hgrow hat
    · go_simp
      refine (HNew.out _ (Below.refl _ _).drew).mono ?_
      rintro e w2 ⟨⟨g, cap, hg, rfl, hc2⟩, hb2⟩
      have hbc2 : w2.cell? ⟨w.heap.size, 0, none⟩ = some v := cell_later hb2 hbc
      refine hK.out _ _ trivial (fun hS => ?_)
      refine wpAnyH_ready (rs := [0, 3]) (by kernel_rfl) (by simp) (AllReadyH.cons rfl (fun K hK => ?_) (AllReadyH.cons rfl (fun K hK => ?_) AllReadyH.nil))
      · go_simp
        refine hK.out _ _ trivial (fun hS => ?_)
        refine wpAnyH_ready (rs := [3]) (by kernel_rfl) (by simp) (AllReadyH.cons rfl (fun K hK => ?_) AllReadyH.nil)
        go_simp
        refine hK.out _ _ trivial (fun hS => ?_)
        refine wpAnyH_ready (rs := [4]) (by kernel_rfl) (by simp) (AllReadyH.cons rfl (fun K hK => ?_) AllReadyH.nil)
        refine step_append_lies _ rfl _ _ 47 rfl (w.heap.size + 4) 51 i0 (.agg #[.slice none 0 0]) 1 24 Ybaf.underlying47 hi0 hz0 hz1 hz2 rfl (by decide) v pre.length vs rfl ((owns_later HR.out ((Below.refl _ W).drew.trans hb2)).alloc _) ⟨w2.heap.size, 0, none⟩ 1 1 [.slice (some ⟨g, 0, none⟩) 1 cap] rfl rfl (cell_one_new _ _ _) (by simp [Value.oneCell']) (by decide) (by unfold maxLen; omega) (by omega) (by have := hb2.size; simp at this ⊢; omega) (w2.heap.size + 1) (by simp) ?_
        intro g' cap' w1 hown hgrow hat hlt
        obtain ⟨hc1, hf1⟩ := HBox.out w2 w1 _ hb2 hgrow
        refine hK.out _ _ trivial (fun hS => ?_)
        change wpAnyH _ _ _ _ _ _ _ (Act.put _ (some 15) _) _
        simp only [Act.put, List.setIfInBounds_toArray, List.set_cons_zero, List.set_cons_succ]
        refine wpAnyH_ready (rs := [5]) (by kernel_rfl) (by simp) (AllReadyH.cons rfl (fun K hK => ?_) AllReadyH.nil)
        go_simp
        refine hK.out _ _ trivial (fun _ => ?_)
        refine wpAnyH_done (by kernel_rfl) ?_ _
        refine Nrm.intro ?_
        gi_wp2
        exact Ic.step hk rfl hcap hbel hall hhead hs4 hbox HR.out HE.out HXX.out ((Below.refl _ W).drew.trans hb2) hg hc2 hown hgrow hat
      · go_simp
        refine hK.out _ _ trivial (fun hS => ?_)
        refine wpAnyH_ready (rs := [0]) (by kernel_rfl) (by simp) (AllReadyH.cons rfl (fun K hK => ?_) AllReadyH.nil)
        have hbc3 : (w2.alloc (.cells #[.slice (some ⟨g, 0, none⟩) 1 cap] 51)).cell? ⟨w.heap.size, 0, none⟩ = some v := by go_keep
        go_simp
        refine hK.out _ _ trivial (fun hS => ?_)
        refine wpAnyH_ready (rs := [4]) (by kernel_rfl) (by simp) (AllReadyH.cons rfl (fun K hK => ?_) AllReadyH.nil)
        refine step_append_lies _ rfl _ _ 47 rfl (w.heap.size + 4) 51 i0 (.agg #[.slice none 0 0]) 1 24 Ybaf.underlying47 hi0 hz0 hz1 hz2 rfl (by decide) v pre.length vs rfl ((owns_later HR.out ((Below.refl _ W).drew.trans hb2)).alloc _) ⟨w2.heap.size, 0, none⟩ 1 1 [.slice (some ⟨g, 0, none⟩) 1 cap] rfl rfl (cell_one_new _ _ _) (by simp [Value.oneCell']) (by decide) (by unfold maxLen; omega) (by omega) (by have := hb2.size; simp at this ⊢; omega) (w2.heap.size + 1) (by simp) ?_
        intro g' cap' w1 hown hgrow hat hlt
        obtain ⟨hc1, hf1⟩ := HBox.out w2 w1 _ hb2 hgrow
        refine hK.out _ _ trivial (fun hS => ?_)
        change wpAnyH _ _ _ _ _ _ _ (Act.put _ (some 15) _) _
        simp only [Act.put, List.setIfInBounds_toArray, List.set_cons_zero, List.set_cons_succ]
        refine wpAnyH_ready (rs := [5]) (by kernel_rfl) (by simp) (AllReadyH.cons rfl (fun K hK => ?_) AllReadyH.nil)
        go_simp
        refine hK.out _ _ trivial (fun _ => ?_)
        refine wpAnyH_done (by kernel_rfl) ?_ _
        refine Nrm.intro ?_
        gi_wp2
        exact Ic.step hk rfl hcap hbel hall hhead hs4 hbox HR.out HE.out HXX.out ((Below.refl _ W).drew.trans hb2) hg hc2 hown hgrow hat
  case done =>
    rintro D ys W hD hne ⟨hcap, hbel, ⟨hall, hhead, hlen⟩, hs4, v, hbox, hsets⟩ hK
    have hbc := hbox.cell
    have HS : Hid _ := hsets
    have HC : Hid _ := hcap
    clear hsets hcap
    gi_wp2
    refine ⟨by simp, .inl ⟨_, _, rfl, run_takeDeferred hK, ?_⟩⟩
    refine ⟨_, results_tmp rfl _ _ _, v, ys, rfl, hne, hlen, hall, hhead, ?_, ?_⟩
    · exact Sets.kept HS.out (grownBy_putObj' W D _) (fun r e => by cases e; exact ⟨_, hK, rfl⟩)
    · exact hbel.trans (belowK_b (w := W0) (by omega) W D _ _ hD hK rfl rfl)

end Go.Proofs.YbulkbvduFmt
