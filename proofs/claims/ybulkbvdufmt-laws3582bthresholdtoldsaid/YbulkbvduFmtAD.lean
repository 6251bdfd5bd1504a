/-
  Seat b3582aF: the writes of add, each on the index.
-/
import Derived.Test.YbulkbvduFmtAC
namespace Go.Proofs.YbulkbvduFmt
open Go.RowKit Go.Maps

section
variable {W w1 : World} {xb n m1 : Nat} {v0 v1 mv v3 : Value} {vs0 vs1 us : List Value}

theorem notTy_pair {e e' : TypeId} {v : Value} {k : Nat} {xs : List Value} {c : Nat} {cs : Array Value} {t : TypeId} (hx : W.heap[c]? = some (.cells cs t (0, 0))) (ht : t ≠ e) (hr : W.ownsRow xb e' 1 v k xs) (he : e' ≠ e) : NotTy W e (c :: v.ownBlock.toList) := by
  intro b hb cs' fr h
  rcases List.mem_cons.1 hb with rfl | hb
  · rw [hx] at h; injection h with h; injection h with _ h2; exact ht h2
  · obtain ⟨cur, hc⟩ := own_ty hr (b := b) (by simpa [Option.mem_def] using hb)
    rw [hc] at h; injection h with h; injection h with _ h2; exact he h2
theorem notMap_pair {e' : TypeId} {v : Value} {k : Nat} {xs : List Value} {c : Nat} {cs : Array Value} {t : TypeId} (hx : W.heap[c]? = some (.cells cs t (0, 0))) (hr : W.ownsRow xb e' 1 v k xs) : ∀ b ∈ c :: v.ownBlock.toList, ∀ es cl, W.heap[b]? ≠ some (.map es cl) := by
  intro b hb es cl h
  rcases List.mem_cons.1 hb with rfl | hb
  · rw [hx] at h; cases h
  · obtain ⟨cur, hc⟩ := own_ty hr (b := b) (by simpa [Option.mem_def] using hb)
    rw [hc] at h; cases h
theorem blk_grow {c : Nat} {cs : Array Value} {t : TypeId} {e : TypeId} {v : Value} {k : Nat} {xs : List Value} {tmp : Obj} (hx : W.heap[c]? = some (.cells cs t (0, 0))) (hr : W.ownsRow xb e 1 v k xs) (he : t ≠ e) (hg : (W.alloc tmp).grownBy w1 v.ownBlock) : w1.heap[c]? = some (.cells cs t (0, 0)) := by
  have hlt : c < W.heap.size := (Array.getElem?_eq_some_iff.1 hx).1
  rw [hg.block c (by simp; omega) (fun e' => by
    obtain ⟨cur, hc⟩ := own_ty hr e'.symm
    rw [hc] at hx; injection hx with h; injection h with _ h2; exact he h2.symm), Below.heap_alloc _ _ _ hlt]
  exact hx
theorem kpt_append {c o : Nat} {v u : Value} {tmp : Obj} (hg : (W.alloc tmp).grownBy w1 v.ownBlock) : Kpt (c :: v.ownBlock.toList) W (w1.setCell ⟨c, o, none⟩ u) := by
  refine ⟨hg.os, hg.tape, hg.output, ?_, fun b hb hn => ?_⟩
  · have := hg.size; simp [World.setCell] at this ⊢; omega
  · rw [Below.heap_setCell _ _ _ _ (fun e => hn (by rw [e]; exact List.mem_cons_self)), hg.block b (by simp; omega) (fun e => hn (List.mem_cons_of_mem _ (by simp [← e]))), Below.heap_alloc _ _ _ hb]
theorem row_set {c o : Nat} {u v : Value} {e t : TypeId} {cs : Array Value} {k : Nat} {xs : List Value} (hx : w1.heap[c]? = some (.cells cs t (0, 0))) (ht : t ≠ e) (hr : w1.ownsRow xb e 1 v k xs) : (w1.setCell ⟨c, o, none⟩ u).ownsRow xb e 1 v k xs := by
  refine row_kpt' hr (L := [c]) ⟨rfl, rfl, rfl, by simp [World.setCell], fun b _ hn => Below.heap_setCell _ _ _ _ (by simpa using hn)⟩ (fun b hb hm => ?_)
  obtain rfl : b = c := by simpa using hm
  obtain ⟨cur, hc⟩ := own_ty hr hb
  rw [hc] at hx; injection hx with h; injection h with _ h2; exact ht h2.symm

theorem Idx.fewer_app (h : Idx W xb n v0 v1 mv v3 vs0 vs1 us m1) {v1' u : Value} {tmp : Obj} (hm : m1 + 1 ≤ 13) (hg : (W.alloc tmp).grownBy w1 v1.ownBlock) (ho : w1.ownsRow xb 3 1 v1' (m1 + 1) (vs1 ++ [u])) :
    Idx (w1.setCell ⟨xb, 1, none⟩ v1') xb n v0 v1' mv v3 vs0 (vs1 ++ [u]) us (m1 + 1) := by
  have hx1 := blk_grow h.cells h.fewer (by decide) hg
  have hk : Kpt (xb :: v1.ownBlock.toList) W (w1.setCell ⟨xb, 1, none⟩ v1') := kpt_append hg
  exact ⟨by simpa using Go.heap_setCell_same w1 xb 1 _ 79 _ hx1, row_kpt h.sets hk (notTy_pair h.cells (by decide) h.fewer (by decide)), row_set hx1 (by decide) ho, hm, h.keys.kpt hk (notMap_pair h.cells h.fewer),
    row_kpt h.hold hk (notTy_pair h.cells (by decide) h.fewer (by decide)), h.holdn, h.inner.kpt hk (notTy_pair h.cells (by decide) h.fewer (by decide))⟩

theorem Idx.sets_app (h : Idx W xb n v0 v1 mv v3 vs0 vs1 us m1) {v0' u : Value} {tmp : Obj} (hg : (W.alloc tmp).grownBy w1 v0.ownBlock) (ho : w1.ownsRow xb 51 1 v0' (n + 1) (vs0 ++ [u])) :
    Idx (w1.setCell ⟨xb, 0, none⟩ v0') xb (n + 1) v0' v1 mv v3 (vs0 ++ [u]) vs1 us m1 := by
  have hx1 := blk_grow h.cells h.sets (by decide) hg
  have hk : Kpt (xb :: v0.ownBlock.toList) W (w1.setCell ⟨xb, 0, none⟩ v0') := kpt_append hg
  exact ⟨by simpa using Go.heap_setCell_same w1 xb 0 _ 79 _ hx1, row_set hx1 (by decide) ho, row_kpt h.fewer hk (notTy_pair h.cells (by decide) h.sets (by decide)), h.few, h.keys.kpt hk (notMap_pair h.cells h.sets),
    row_kpt h.hold hk (notTy_pair h.cells (by decide) h.sets (by decide)), h.holdn, h.inner.kpt hk (notTy_pair h.cells (by decide) h.sets (by decide))⟩

theorem Idx.hold_app (h : Idx W xb n v0 v1 mv v3 vs0 vs1 us m1) {v3' : Value} {tmp : Obj} (hm : us.length + 1 ≤ 12) (hg : (W.alloc tmp).grownBy w1 v3.ownBlock) (ho : w1.ownsRow xb 49 1 v3' (us.length + 1) (us ++ [.slice none 0 0])) :
    Idx (w1.setCell ⟨xb, 3, none⟩ v3') xb n v0 v1 mv v3' vs0 vs1 (us ++ [.slice none 0 0]) m1 := by
  have hx1 := blk_grow h.cells h.hold (by decide) hg
  have hk : Kpt (xb :: v3.ownBlock.toList) W (w1.setCell ⟨xb, 3, none⟩ v3') := kpt_append hg
  have hi := h.inner.kpt hk (notTy_pair h.cells (by decide) h.hold (by decide))
  refine ⟨by simpa using Go.heap_setCell_same w1 xb 3 _ 79 _ hx1, row_kpt h.sets hk (notTy_pair h.cells (by decide) h.hold (by decide)), row_kpt h.fewer hk (notTy_pair h.cells (by decide) h.hold (by decide)), h.few, h.keys.kpt hk (notMap_pair h.cells h.hold), ?_, by simpa using hm, ?_, ?_⟩
  · simpa using row_set hx1 (by decide) ho
  · intro q u hq
    by_cases hl : q < us.length
    · rw [List.getElem?_append_left hl] at hq; exact hi.1 q u hq
    · rw [List.getElem?_append_right (by omega)] at hq
      have h0 : q - us.length = 0 := by
        by_cases h0 : q - us.length = 0
        · exact h0
        · rw [List.getElem?_eq_none (by simp only [List.length_cons, List.length_nil]; omega)] at hq; cases hq
      rw [h0] at hq
      obtain rfl : Value.slice none 0 0 = u := by simpa using hq
      exact ⟨0, [], by omega, World.ownsRow_nil _ _ _ _⟩
  · intro q q' b u u' hq hq' hb hb'
    have key : ∀ (q : Nat) (u : Value), (us ++ [Value.slice none 0 0])[q]? = some u → u.ownBlock = some b → us[q]? = some u := fun q u hq hb => by
      by_cases hl : q < us.length
      · rwa [List.getElem?_append_left hl] at hq
      · rw [List.getElem?_append_right (by omega)] at hq
        have hu : u = .slice none 0 0 := by
          have := List.mem_of_getElem? hq
          simpa using this
        rw [hu] at hb; simp [Value.ownBlock] at hb
    exact hi.2 q q' b u u' (key q u hq hb) (key q' u' hq' hb') hb hb'

/-- The block and the cells of 'holding' where it has a q-th row. -/
theorem Idx.hold_at (h : Idx W xb n v0 v1 mv v3 vs0 vs1 us m1) {q : Nat} {u : Value} (hq : us[q]? = some u) : ∃ g3 c3 cur, v3 = .slice (some ⟨g3, 0, none⟩) us.length c3 ∧ W.heap[g3]? = some (.cells cur 49 (0, 0)) ∧ cur[q]? = some u ∧ q < us.length ∧ xb ≤ g3 ∧ us.length ≤ c3 := by
  have hl : q < us.length := (List.getElem?_eq_some_iff.1 hq).1
  rcases h.hold.2 with ⟨_, h0⟩ | ⟨g3, c3, cur, hv, hge, hgb, hcc, _, hsz, htk⟩
  · omega
  · refine ⟨g3, c3, cur, hv, hgb, ?_, hl, hge, hcc⟩
    have e2 := congrArg (fun l : List Value => l[q]?) htk
    simp only [Nat.mul_one, hq] at e2
    rw [List.getElem?_take, if_pos hl] at e2
    simpa using e2

theorem Idx.inner_app (h : Idx W xb n v0 v1 mv v3 vs0 vs1 us m1) {q g3 c3 k g' cap' : Nat} {u : Value} {cur : Array Value} {zs : List Int} {tmp : Obj} (hq : us[q]? = some u) (hv : v3 = .slice (some ⟨g3, 0, none⟩) us.length c3) (hgb : W.heap[g3]? = some (.cells cur 49 (0, 0))) (hkk : k + 1 ≤ 64)
    (hr : W.ownsRow xb 91 1 u k (zs.map (Value.int .u64))) (hg : (W.alloc tmp).grownBy w1 u.ownBlock) (ho : w1.ownsRow xb 91 1 (.slice (some ⟨g', 0, none⟩) (k + 1) cap') (k + 1) (zs.map (Value.int .u64) ++ [.int .u64 0])) (hat : u.ownBlock = some g' ∨ g' = W.heap.size + 1) :
    Idx (w1.setCell ⟨g3, q, none⟩ (.slice (some ⟨g', 0, none⟩) (k + 1) cap')) xb n v0 v1 mv v3 vs0 vs1 (us.set q (.slice (some ⟨g', 0, none⟩) (k + 1) cap')) m1 := by
  have hl : q < us.length := (List.getElem?_eq_some_iff.1 hq).1
  have hx3 := blk_grow hgb hr (by decide) hg
  have hk : Kpt (g3 :: u.ownBlock.toList) W (w1.setCell ⟨g3, q, none⟩ (.slice (some ⟨g', 0, none⟩) (k + 1) cap')) := kpt_append hg
  have hxn : xb ∉ g3 :: u.ownBlock.toList := fun hm => by
    rcases List.mem_cons.1 hm with rfl | hm
    · rw [h.cells] at hgb; injection hgb with h1; injection h1 with _ h2; cases h2
    · obtain ⟨cc, hc⟩ := own_ty hr (b := xb) (by simpa [Option.mem_def] using hm)
      rw [h.cells] at hc; injection hc with h1; injection h1 with _ h2; cases h2
  refine ⟨(hk.block xb h.lt hxn).trans h.cells, row_kpt h.sets hk (notTy_pair hgb (by decide) hr (by decide)), row_kpt h.fewer hk (notTy_pair hgb (by decide) hr (by decide)), h.few, h.keys.kpt hk (notMap_pair hgb hr), ?_, by simpa using h.holdn, ?_, ?_⟩
  · rcases h.hold.2 with ⟨h1, _⟩ | ⟨g3', c3', cur', hv', hge, hgb', hcc, hcm, hsz, htk⟩
    · rw [hv] at h1; cases h1
    · rw [hv] at hv'
      obtain ⟨rfl, rfl⟩ : g3 = g3' ∧ c3 = c3' := by
        injection hv' with a1 a2 a3
        injection a1 with a1; injection a1 with a1
        exact ⟨a1, a3⟩
      rw [hgb] at hgb'
      obtain rfl : cur = cur' := by injection hgb' with a; injection a
      refine ⟨by simp, .inr ⟨g3, c3, cur.setIfInBounds q (.slice (some ⟨g', 0, none⟩) (k + 1) cap'), by rw [hv]; simp, hge, Go.heap_setCell_same w1 g3 q _ 49 _ hx3, by simpa using hcc, hcm, by simpa using hsz, ?_⟩⟩
      rw [Array.toList_setIfInBounds, List.length_set, List.take_set, htk]
  · intro q' u' hq'
    by_cases e : q' = q
    · subst e
      rw [List.getElem?_set_self (by simpa using hl)] at hq'
      obtain rfl : _ = u' := by simpa using hq'
      exact ⟨k + 1, zs ++ [0], hkk, by simpa using row_set hx3 (by decide) ho⟩
    · rw [List.getElem?_set_ne (Ne.symm e)] at hq'
      obtain ⟨k', ws', hk', hr'⟩ := h.inner.1 q' u' hq'
      refine ⟨k', ws', hk', row_kpt' hr' hk (fun b hb hm => ?_)⟩
      rcases List.mem_cons.1 hm with rfl | hm
      · obtain ⟨cc, hc⟩ := own_ty hr' hb
        rw [hgb] at hc; injection hc with h1; injection h1 with _ h2; cases h2
      · exact e (h.inner.2 q' q b u' u hq' hq hb (by simpa [Option.mem_def] using hm))
  · have key : ∀ (a : Nat) (y : Value) (b : Nat), a ≠ q → us[a]? = some y → y.ownBlock = some b → b ≠ g' := fun a y b ha hy hb e => by
      subst e
      rcases hat with hh | hh
      · exact ha (h.inner.2 a q b y u hy hq hb hh)
      · obtain ⟨k', ws', _, hr'⟩ := h.inner.1 a y hy
        obtain ⟨cc, hc⟩ := own_ty hr' hb
        have := (Array.getElem?_eq_some_iff.1 hc).1
        omega
    intro a a' b y y' ha ha' hb hb'
    by_cases e : a = q
    · by_cases e' : a' = q
      · omega
      · rw [List.getElem?_set_ne (Ne.symm e')] at ha'
        subst e
        rw [List.getElem?_set_self (by simpa using hl)] at ha
        obtain rfl : _ = y := by simpa using ha
        have : g' = b := by simpa [Value.ownBlock] using hb
        exact absurd this.symm (key a' y' b e' ha' hb')
    · rw [List.getElem?_set_ne (Ne.symm e)] at ha
      by_cases e' : a' = q
      · subst e'
        rw [List.getElem?_set_self (by simpa using hl)] at ha'
        obtain rfl : _ = y' := by simpa using ha'
        have : g' = b := by simpa [Value.ownBlock] using hb'
        exact absurd this.symm (key a y b e ha hb)
      · rw [List.getElem?_set_ne (Ne.symm e')] at ha'
        exact h.inner.2 a a' b y y' ha ha' hb hb'

/-- A bit set in a word of a row. -/
theorem Idx.bit (h : Idx W xb n v0 v1 mv v3 vs0 vs1 us m1) {q gu j k cu : Nat} {x : Int} {cur : Array Value} (hq : us[q]? = some (.slice (some ⟨gu, 0, none⟩) k cu)) (hgb : W.heap[gu]? = some (.cells cur 91 (0, 0))) :
    Idx (W.setCell ⟨gu, j, none⟩ (.int .u64 x)) xb n v0 v1 mv v3 vs0 vs1 us m1 := by
  have hk : Kpt [gu] W (W.setCell ⟨gu, j, none⟩ (.int .u64 x)) := ⟨rfl, rfl, rfl, by simp [World.setCell], fun b _ hn => Below.heap_setCell _ _ _ _ (by simpa using hn)⟩
  have nt : ∀ e : TypeId, e ≠ 91 → NotTy W e [gu] := fun e he b hb cs fr hc => by
    obtain rfl : b = gu := by simpa using hb
    rw [hgb] at hc; injection hc with h1; injection h1 with _ h2; exact he h2.symm
  refine ⟨(hk.block xb h.lt (fun hm => ?_)).trans h.cells, row_kpt h.sets hk (nt _ (by decide)), row_kpt h.fewer hk (nt _ (by decide)), h.few, h.keys.kpt hk (fun b hb es c hc => ?_), row_kpt h.hold hk (nt _ (by decide)), h.holdn, fun q' u' hq' => ?_, h.inner.2⟩
  · obtain rfl : xb = gu := by simpa using hm
    rw [h.cells] at hgb; injection hgb with h1; injection h1 with _ h2; cases h2
  · obtain rfl : b = gu := by simpa using hb
    rw [hgb] at hc; cases hc
  · obtain ⟨k', ws', hk', hr'⟩ := h.inner.1 q' u' hq'
    by_cases e : q' = q
    · subst e
      rw [hq] at hq'
      obtain rfl : _ = u' := by simpa using hq'
      rcases hr'.2 with ⟨h1, _⟩ | ⟨g', c', cur', hv', hge, hgb', hcc, hcm, hsz, htk⟩
      · cases h1
      · have hgg : gu = g' := by simpa [Value.ownBlock] using congrArg Value.ownBlock hv'
        subst hgg
        rw [hgb] at hgb'
        obtain rfl : cur = cur' := by injection hgb' with a; injection a
        refine ⟨k', ws'.set j x, hk', by simpa using hr'.1, .inr ⟨gu, c', cur.setIfInBounds j (.int .u64 x), hv', hge, Go.heap_setCell_same W gu j _ 91 _ hgb, hcc, hcm, by simpa using hsz, ?_⟩⟩
        rw [Array.toList_setIfInBounds, List.take_set, htk, List.map_set]
    · refine ⟨k', ws', hk', row_kpt' hr' hk (fun b hb hm => ?_)⟩
      obtain rfl : b = gu := by simpa using hm
      exact e (h.inner.2 q' q b u' _ hq' hq hb rfl)
end
end Go.Proofs.YbulkbvduFmt
