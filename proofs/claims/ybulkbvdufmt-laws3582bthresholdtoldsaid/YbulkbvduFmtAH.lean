/-
  Seat b3582aF: SendingOrders: what it has laid after i rows; the plain part.
-/
import Derived.Test.YbulkbvduFmtT
import Derived.Test.YbulkbvduFmtN
namespace Go.Proofs.YbulkbvduFmt
open Go.RowKit Go.Shelf

/-- The t-th of the others of process i, in ascending order. -/
def want (i t : Nat) : Nat := if t < i then t else t + 1
/-- How many of 0 .. k-1 are not i. -/
def cnt (i k : Nat) : Nat := if k ≤ i then k else k - 1
/-- The others of i below k. -/
def rowTo (i k : Nat) : List Value := (List.range (cnt i k)).map fun t => .int .i64 ((want i t : Nat) : Int)

theorem rowTo_len (i k : Nat) : (rowTo i k).length = cnt i k := by simp [rowTo]
theorem cnt_zero (i : Nat) : cnt i 0 = 0 := by simp [cnt]
theorem cnt_le (i k : Nat) : cnt i k ≤ k := by unfold cnt; split <;> omega
theorem cnt_same (i : Nat) : cnt i (i + 1) = cnt i i := by simp [cnt]
theorem cnt_other {i k : Nat} (h : k ≠ i) : cnt i (k + 1) = cnt i k + 1 := by unfold cnt; split <;> split <;> omega
theorem want_cnt {i k : Nat} (h : k ≠ i) : want i (cnt i k) = k := by unfold want cnt; split <;> split <;> omega
theorem cnt_end {i n : Nat} (h : i < n) : cnt i n = n - 1 := by unfold cnt; split <;> omega
theorem rowTo_same (i : Nat) : rowTo i (i + 1) = rowTo i i := by simp [rowTo, cnt_same]
theorem rowTo_other {i k : Nat} (h : k ≠ i) : rowTo i (k + 1) = rowTo i k ++ [.int .i64 (k : Int)] := by
  simp [rowTo, cnt_other h, List.range_succ, want_cnt h]
theorem rowTo_get {i n t : Nat} (h : i < n) (ht : t < n - 1) : (rowTo i n)[t]? = some (.int .i64 ((want i t : Nat) : Int)) := by
  have e := cnt_end h
  simp [rowTo, e, ht]

/-- Block ob holds n rows; the first i of them are laid as they should be. -/
def Ord (W : World) (ob n i : Nat) : Prop :=
  ∃ cs : Array Value, W.heap[ob]? = some (.cells cs 31 (0, 0)) ∧ cs.size = n ∧
    ∀ j, j < i → ∃ (g cap : Nat) (cur : Array Value), cs[j]? = some (.slice (some ⟨g, 0, none⟩) (n - 1) cap) ∧ g ≠ ob ∧ W.heap[g]? = some (.cells cur 3 (0, 0)) ∧ ∀ k, k < n - 1 → cur[k]? = some (.int .i64 ((want j k : Nat) : Int))

theorem frozen_row {w : World} {b o : Nat} {cs : Array Value} {t : TypeId} (h : w.heap[b]? = some (.cells cs t (0, 0))) : w.frozen? ⟨b, o, none⟩ = false := by
  simp [World.frozen?, h]

theorem info31 : (Ybaf.prog.info? 31).map (fun i => (i.zero, i.size, i.bytes)) = some (some (.slice none 0 0), 1, 24) := by kernel_rfl

/-- WHAT HOLDS IN THE INNER LOOP, k of the n processes looked at for the row of i: 'sz': the heap's size when the row was begun, 'cs': the rows as they were then. -/
structure Mid (W0 W : World) (ob i k g cap : Nat) (cs : Array Value) : Prop where
  row : W.heap[ob]? = some (.cells (cs.setIfInBounds i (.slice (some ⟨g, 0, none⟩) (cnt i k) cap)) 31 (0, 0))
  own : W.ownsRow W0.heap.size 3 1 (.slice (some ⟨g, 0, none⟩) (cnt i k) cap) (cnt i k) (rowTo i k)
  old : ∀ b, b < W0.heap.size → b ≠ ob → W.heap[b]? = W0.heap[b]?
  size : W0.heap.size ≤ W.heap.size
  rest : W.os = W0.os ∧ W.tape = W0.tape ∧ W.output = W0.output

/-- A row done is a row more. -/
theorem Mid.done {W0 W : World} {ob i n g cap : Nat} {cs : Array Value} (hi : i < n) (hob : ob < W0.heap.size) (hcs : cs.size = n) (hr : ∀ j, j < i → ∃ (g cap : Nat) (cur : Array Value), cs[j]? = some (.slice (some ⟨g, 0, none⟩) (n - 1) cap) ∧ g ≠ ob ∧ W0.heap[g]? = some (.cells cur 3 (0, 0)) ∧ ∀ k, k < n - 1 → cur[k]? = some (.int .i64 ((want j k : Nat) : Int)))
    (h : Mid W0 W ob i n g cap cs) : Ord W ob n (i + 1) := by
  refine ⟨_, h.row, by simp [hcs], fun j hj => ?_⟩
  by_cases e : j = i
  · subst e
    have e1 := cnt_end hi
    rcases h.own.2 with ⟨hv, _⟩ | ⟨g', cap', cur, hv, hg, hh, _, _, h3, h4⟩
    · cases hv
    · cases hv
      refine ⟨g, cap, cur, by rw [← e1]; simp [hcs, hi], by omega, hh, fun k hk => ?_⟩
      have e2 := congrArg (fun l : List Value => l[k]?) h4
      simp only [Nat.mul_one, rowTo_get hi hk] at e2
      rw [List.getElem?_take, if_pos (by omega)] at e2
      simpa using e2
  · obtain ⟨g', cap', cur, h1, h2, h3, h4⟩ := hr j (by omega)
    have hg' : g' < W0.heap.size := (Array.getElem?_eq_some_iff.1 h3).1
    refine ⟨g', cap', cur, ?_, h2, (h.old g' hg' h2).trans h3, h4⟩
    rw [Array.getElem?_setIfInBounds_ne (Ne.symm e)]
    exact h1

theorem Mid.skip {W0 W : World} {ob i g cap : Nat} {cs : Array Value} (h : Mid W0 W ob i i g cap cs) : Mid W0 W ob i (i + 1) g cap cs := by
  refine ⟨?_, ?_, h.old, h.size, h.rest⟩
  · rw [cnt_same]; exact h.row
  · rw [cnt_same, rowTo_same]; exact h.own

theorem Mid.step {W0 W w1 : World} {ob i k g cap g' cap' : Nat} {cs : Array Value} (hob : ob < W0.heap.size) (hne : k ≠ i) (h : Mid W0 W ob i k g cap cs) (o : Obj)
    (hgrow : (W.alloc o).grownBy w1 (some g)) (hown : w1.ownsRow W0.heap.size 3 1 (.slice (some ⟨g', 0, none⟩) (cnt i k + 1) cap') (cnt i k + 1) (rowTo i k ++ [.int .i64 (k : Int)])) :
    Mid W0 (w1.setCell ⟨ob, i, none⟩ (.slice (some ⟨g', 0, none⟩) (cnt i k + 1) cap')) ob i (k + 1) g' cap' cs := by
  have hg : W0.heap.size ≤ g := by
    rcases h.own.2 with ⟨hv, _⟩ | ⟨g1, cap1, cur, hv, hg, _⟩
    · cases hv
    · cases hv; exact hg
  have hsz := h.size
  have hs1 := hgrow.size
  simp at hs1
  have h1 : ∀ b, b < W0.heap.size → w1.heap[b]? = W.heap[b]? := fun b hb => by
    rw [hgrow.block b (by simp; omega) (by simp; omega), Below.heap_alloc _ _ _ (by omega)]
  refine ⟨?_, ?_, fun b hb hne' => ?_, by simp [World.setCell]; omega, ?_⟩
  · have hr : w1.heap[ob]? = _ := (h1 ob hob).trans h.row
    rw [cnt_other hne, Go.heap_setCell_same w1 ob i _ 31 _ hr, Array.setIfInBounds_setIfInBounds]
  · rw [cnt_other hne, rowTo_other hne]
    exact ownsRow_setCell_below hown hob _
  · rw [Below.heap_setCell _ _ _ _ (by simpa using hne'), h1 b hb]
    exact h.old b hb hne'
  · obtain ⟨e1, e2, e3⟩ := h.rest
    exact ⟨hgrow.os.trans e1, hgrow.tape.trans e2, hgrow.output.trans e3⟩

theorem Mid.first {W0 : World} {ob i n : Nat} {cs mk : Array Value} (hob : ob < W0.heap.size) (h0 : W0.heap[ob]? = some (.cells cs 31 (0, 0))) (hmk : mk.size = n) (hn : n ≤ maxLen) :
    Mid W0 ((W0.setCell ⟨ob, i, none⟩ (.slice (some ⟨W0.heap.size, 0, none⟩) 0 n)).alloc (.cells mk 3)) ob i 0 W0.heap.size n cs := by
  have hsz : (W0.setCell ⟨ob, i, none⟩ (.slice (some ⟨W0.heap.size, 0, none⟩) 0 n)).heap.size = W0.heap.size := by simp [World.setCell]
  refine ⟨?_, ⟨by simp [rowTo, cnt_zero], .inr ⟨W0.heap.size, n, mk, by rw [cnt_zero], Nat.le_refl _, ?_, by rw [cnt_zero]; exact Nat.zero_le _, hn, by omega, by simp [rowTo, cnt_zero]⟩⟩, fun b hb hne => ?_, by simp [World.setCell], ⟨rfl, rfl, rfl⟩⟩
  · rw [Below.heap_alloc _ _ _ (by omega), cnt_zero]
    exact Go.heap_setCell_same W0 ob i _ 31 _ h0
  · have := heap_alloc_new (W0.setCell ⟨ob, i, none⟩ (.slice (some ⟨W0.heap.size, 0, none⟩) 0 n)) (.cells mk 3)
    rw [hsz] at this
    exact this
  · rw [Below.heap_alloc _ _ _ (by omega), Below.heap_setCell _ _ _ _ (by simpa using hne)]

/-- The block that holds the rows is as it was but for the rows; what lies below it is as it was. -/
theorem Mid.below {W0 W w : World} {ob i k g cap : Nat} {cs : Array Value} {B : Nat} (h : Mid W0 W ob i k g cap cs) (hB : B ≤ ob) (hob : ob < W0.heap.size) (hb : Below B w W0) : Below B w W :=
  hb.trans ⟨h.rest.1, h.rest.2.1, h.rest.2.2, h.size, fun b hb' => h.old b (by omega) (by omega)⟩

end Go.Proofs.YbulkbvduFmt
