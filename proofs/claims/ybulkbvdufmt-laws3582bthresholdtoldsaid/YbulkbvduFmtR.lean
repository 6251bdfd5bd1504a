/-
  Seat b3582aF: complements.
-/
import Derived.Test.YbulkbvduFmtQ
import Derived.Test.YbulkbvduFmtP
namespace Go.Proofs.YbulkbvduFmt
open Go.RowKit

theorem info51' : (Ybaf.prog.info? 51).map (fun i => (i.zero, i.size, i.bytes)) = some (some (.agg #[.slice none 0 0]), 1, 24) := by kernel_rfl

/-- A row of m sets that is made: the first i are laid. -/
def Part (W : World) (R i m : Nat) : Prop :=
  ∃ cs : Array Value, W.heap[R]? = some (.cells cs 51 (0, 0)) ∧ cs.size = m ∧ (∀ j, j < i → ∃ (g len cap y : Nat), cs[j]? = some (.slice (some ⟨g, 0, none⟩) len cap) ∧ R < g ∧ g < W.heap.size ∧ Wd W (some ⟨g, 0, none⟩) len (y : Int)) ∧ ∀ j, i ≤ j → j < m → cs[j]? = some (.slice none 0 0)

theorem wd_keep {W W' : World} {R g len : Nat} {y : Int} (h : Wd W (some ⟨g, 0, none⟩) len y) (hg : g ≠ R) (hb : ∀ b, b < W.heap.size → b ≠ R → W'.heap[b]? = W.heap[b]?) : Wd W' (some ⟨g, 0, none⟩) len y := by
  rcases h with h | ⟨h1, h2, h3, b, o, hp, hc⟩
  · exact .inl h
  · cases hp
    exact .inr ⟨h1, h2, h3, _, _, rfl, (World.cell?_of_block (hb g (lt_of_cell hc) hg)).trans hc⟩

theorem Part.step {W W1 : World} {R i m g len cap y : Nat} (h : Part W R i m) (hi : i < m) (hb : Below W.heap.size W W1) (hR : R < W.heap.size) (hg : W.heap.size ≤ g) (hg1 : g < W1.heap.size) (hw : Wd W1 (some ⟨g, 0, none⟩) len (y : Int)) :
    Part (W1.setCell ⟨R, i, none⟩ (.slice (some ⟨g, 0, none⟩) len cap)) R (i + 1) m := by
  obtain ⟨cs, h1, h2, h3, h4⟩ := h
  have h1' : W1.heap[R]? = some (.cells cs 51 (0, 0)) := (hb.block R hR).trans h1
  have ho : ∀ b, b < W1.heap.size → b ≠ R → (W1.setCell ⟨R, i, none⟩ (.slice (some ⟨g, 0, none⟩) len cap)).heap[b]? = W1.heap[b]? := fun b _ hne => Below.heap_setCell _ _ _ _ hne
  refine ⟨_, Go.heap_setCell_same W1 R i _ 51 _ h1', by simp [h2], fun j hj => ?_, fun j hj hjm => ?_⟩
  · by_cases e : j = i
    · subst e
      exact ⟨g, len, cap, y, by simp [h2, hi], by omega, by simpa [World.setCell] using hg1, wd_keep hw (by omega) ho⟩
    · obtain ⟨g', len', cap', y', a, b, b', c⟩ := h3 j (by omega)
      exact ⟨g', len', cap', y', by rw [Array.getElem?_setIfInBounds_ne (Ne.symm e)]; exact a, b, by have := hb.size; simp [World.setCell]; omega, wd_keep (c.later hb) (by omega) ho⟩
  · rw [Array.getElem?_setIfInBounds_ne (by omega)]
    exact h4 j (by omega) hjm

theorem Part.row {W : World} {R m : Nat} (h : Part W R m m) : ∃ ms : List Nat, ms.length = m ∧ SetRow W R 0 (fun b => R < b) ms := by
  obtain ⟨cs, h1, h2, h3, _⟩ := h
  have key : ∀ k, k ≤ m → ∃ ms : List Nat, ms.length = k ∧ SetRow W R 0 (fun b => R < b) ms := fun k => by
    induction k with
    | zero => intro _; exact ⟨[], rfl, fun i x hx => by simp at hx⟩
    | succ k ih =>
      intro hk
      obtain ⟨ms, hl, hs⟩ := ih (by omega)
      obtain ⟨g, len, cap, y, a, b, b', c⟩ := h3 k (by omega)
      refine ⟨ms ++ [y], by simp [hl], fun i x hx => ?_⟩
      by_cases e : i < k
      · rw [List.getElem?_append_left (by omega)] at hx
        exact hs i x hx
      · rw [List.getElem?_append_right (by omega), hl] at hx
        have h0 : i - k = 0 := by
          by_cases h0 : i - k = 0
          · exact h0
          · rw [List.getElem?_eq_none (by simp only [List.length_cons, List.length_nil]; omega)] at hx; cases hx
        rw [h0] at hx
        obtain rfl : y = x := by simpa using hx
        obtain rfl : i = k := by omega
        refine ⟨_, len, cap, by rw [Nat.zero_add]; exact (cell_of_row W _ i _ 51 _ h1).trans a, by simp [World.frozen?, h1], c, fun q hq => by cases hq; exact ⟨b, b'⟩⟩
  exact key m (Nat.le_refl _)

set_option maxHeartbeats 4000000 in
set_option maxRecDepth 10000 in
theorem comps_any (blk off cap n : Nat) (ms : List Nat) (hn : 1 ≤ n) (hn12 : n ≤ 12) (w : World) (D : Nat → Prop) (h : SetRow w blk off D ms) (hm : ms.length ≤ 4096) (hblk : blk < w.heap.size) :
    Calls Ybaf.prog 20 #[.slice (some ⟨blk, off, none⟩) ms.length cap, .int .i64 (n : Nat)] w fun e w' => ∃ ms' : List Nat, e = .returned (.slice (some ⟨w.heap.size, 0, none⟩) ms.length ms.length) ∧ ms'.length = ms.length ∧ SetRow w' w.heap.size 0 (fun b => w.heap.size < b) ms' ∧ Below w.heap.size w w' := by
  obtain ⟨m, hml⟩ : ∃ m, m = ms.length := ⟨_, rfl⟩
  rw [← hml] at hm ⊢
  have HR : Hid _ := h
  clear h
  obtain ⟨i51, hi, hz0, hz1, hz2⟩ := info_parts info51'
  obtain ⟨mk, hmk⟩ : ∃ mk : Array Value, mk = madeCells (Value.agg #[.slice none 0 0]).cells (m * 1) := ⟨_, rfl⟩
  have hmks : mk.size = m := by rw [hmk, size_madeCells]; omega
  have hmkz : ∀ j, j < m → mk[j]? = some (.slice none 0 0) := fun j hj => by
    have e : (Value.agg #[.slice none 0 0]).cells = #[Value.slice none 0 0] := by kernel_rfl
    rw [hmk, e, Nat.mul_one, ← Array.getElem?_toList, toList_madeCells_one]
    simp [hj]
  have hmake : ∀ W, (Instr.makeSlice 47 (.int .i64 (m : Int)) (.int .i64 (m : Int))).run Ybaf.prog W = .ok (.slice (some ⟨W.heap.size, 0, none⟩) m m) (W.alloc (.cells mk 51)) := fun W => by
    have := run_make (P := Ybaf.prog) W 47 51 i51 (.agg #[.slice none 0 0]) Ybaf.underlying47 hi hz0 .i64 .i64 (m : Int) (m : Int) (by omega) (by omega) (by rw [hz2]; omega) (by omega)
    rw [hmk, this, hz1]
    simp
  have HP : Hid (Part (w.alloc (.cells mk 51)) w.heap.size 0 m) := ⟨mk, heap_alloc_new w _, hmks, fun j hj => by omega, fun j _ hj => hmkz j hj⟩
  have HML : Hid _ := hml
  clear hmk hi hz0 hz1 hz2 hmks hmkz hml
  go_enter Ybaf.func20, Ybaf.ntmps20
  go_wp2_with fail
  clear hmake
  go_loopw [13] (fun c wr => ∃ i : Nat, i ≤ m ∧ c = .int .i64 (i : Nat) ∧ Part wr w.heap.size i m ∧ Hid (Below w.heap.size w wr)) (fun c _ => m - (intOf c).toNat)
  case atStart => exact ⟨0, by omega, rfl, HP.out, (Below.refl _ _).alloc (Nat.le_refl _) _⟩
  case round =>
    clear HP
    obtain ⟨i, him, rfl, hpart, HB⟩ := hrel
    by_cases hlt : i < m
    · obtain ⟨p, len, cp, hcel, _, hwd, _⟩ := HR.out i (ms[i]'(by have := HML.out; omega)) (List.getElem?_eq_getElem _)
      obtain ⟨x, hx⟩ : ∃ x : Int, x = ((ms[i]'(by have := HML.out; omega) : Nat) : Int) := ⟨_, rfl⟩
      rw [← hx] at hwd
      clear hx
      have hce := cell_later HB.out hcel
      have hR : w.heap.size < wr.heap.size := by obtain ⟨cs, h1, _⟩ := hpart; exact (Array.getElem?_eq_some_iff.1 h1).1
      have rc : wr.cell? ⟨w.heap.size, i, none⟩ = some (.slice none 0 0) := by
        obtain ⟨cs, h1, h2, h3, h4⟩ := hpart
        exact (cell_of_row wr _ i _ 51 _ h1).trans (h4 i (Nat.le_refl _) hlt)
      have rf : wr.frozen? ⟨w.heap.size, i, none⟩ = false := by
        obtain ⟨cs, h1, h2, h3, h4⟩ := hpart
        simp [World.frozen?, h1]
      have HC : Hid _ := fun (W : World) (hb : Below wr.heap.size wr W) => comp_any p len cp n x hn hn12 W ((hwd.later HB.out).later hb)
      have HP : Hid _ := hpart
      have hil : ((i : Nat) : Int) < (m : Nat) := by omega
      have hbs : blk < wr.heap.size := by omega
      clear hcel hwd hpart
      go_wp2_with (go_at_call 30; refine (HC.out _ ((Below.refl _ wr).alloc (Nat.le_refl _) _)).mono ?_; rintro e W2 ⟨g, len', cap', y, rfl, hg, hg1, hw2, hb2⟩; have rc2 := cell_later (((Below.refl _ wr).alloc (Nat.le_refl _) _).trans (hb2.mono (by simp))) rc; have rf2 := ((((Below.refl _ wr).alloc (Nat.le_refl _) _).trans (hb2.mono (by simp))).frozen (p := ⟨w.heap.size, i, none⟩) hR).trans rf)
      have hbw : Below wr.heap.size wr W2 := ((Below.refl _ wr).alloc (Nat.le_refl _) _).trans (hb2.mono (by simp))
      refine ⟨⟨i + 1, by omega, by simp, Part.step HP.out hlt hbw hR (by simp at hg; omega) hg1 hw2, ?_⟩, by simp [intOf]; omega⟩
      exact (HB.out.trans (hbw.mono HB.out.size)).setCell (p := ⟨w.heap.size, i, none⟩) (Nat.le_refl _) _
    · obtain rfl : i = m := by omega
      have hil : ¬ ((i : Nat) : Int) < (i : Nat) := by omega
      have HP : Hid _ := hpart
      clear hpart
      go_wp2_with fail
      go_ret
      obtain ⟨ms', hl, hs⟩ := Part.row HP.out
      exact ⟨rfl, ms', hl, hs, HB.out⟩

end Go.Proofs.YbulkbvduFmt
