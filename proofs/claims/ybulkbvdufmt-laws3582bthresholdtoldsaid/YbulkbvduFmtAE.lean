/-
  Seat b3582aF: (*SubsetIndex).add: the frame, the keys.
-/
import Derived.Test.YbulkbvduFmtAD
import Derived.Test.YbulkbvduFmtAB
import Derived.Test.YbulkbvduFmtY
import Derived.Test.YbulkbvduFmtAA
import Derived.Deep.RegionLaw
import Derived.Deep.RegionHeldLaw
namespace Go.Proofs.YbulkbvduFmt
open Go.RowKit Go.Shelf Go.Maps

attribute [local go_sem] Oper.semAt_some

/-- The call's own variables and what it reads. -/
structure Fr (w W : World) (xb p ib i : Nat) (sp : Option Addr) (len cap x : Nat) : Prop where
  bx : Boxed W p 33 (.pointer (some ⟨xb, 0, none⟩))
  bs : Boxed W (p + 1) 51 (.slice sp len cap)
  bi : Boxed W ib 3 (.int .i64 (i : Nat))
  wd : Wd W sp len (x : Int)
  tab : Tab W
  bel : Below xb w W
  lo : (∀ a, sp = some a → len = 1 → a.block < xb) ∧ Ybaf.tz64_ren.g 1 < xb ∧ xb < p ∧ p + 1 < ib ∧ xb ≤ w.heap.size

theorem Fr.kpt {L : List Nat} {w W W' : World} {xb p ib i : Nat} {sp : Option Addr} {len cap x : Nat} (h : Fr w W xb p ib i sp len cap x) (hk : Kpt L W W') (hL : ∀ b ∈ L, xb ≤ b) (hn : ∀ b ∈ L, b ≠ p ∧ b ≠ p + 1 ∧ b ≠ ib) : Fr w W' xb p ib i sp len cap x := by
  have hb : Below xb W W' := hk.below hL (Nat.le_trans h.lo.2.2.2.2 h.bel.size)
  exact ⟨box_kpt h.bx hk (fun hm => (hn _ hm).1 rfl), box_kpt h.bs hk (fun hm => (hn _ hm).2.1 rfl), box_kpt h.bi hk (fun hm => (hn _ hm).2.2 rfl), wd_below h.wd hb h.lo.1, tab_below h.tab hb h.lo.2.1, h.bel.trans hb, h.lo⟩
theorem Fr.later {w W W' : World} {xb p ib i : Nat} {sp : Option Addr} {len cap x : Nat} (h : Fr w W xb p ib i sp len cap x) (hb : Below W.heap.size W W') : Fr w W' xb p ib i sp len cap x := h.kpt (Kpt.of_below hb) (by simp) (by simp)

theorem Idx.drawn {W : World} {xb n m1 : Nat} {v0 v1 mv v3 : Value} {vs0 vs1 us : List Value} (d : Nat) (h : Idx W xb n v0 v1 mv v3 vs0 vs1 us m1) : Idx (W.drewN d) xb n v0 v1 mv v3 vs0 vs1 us m1 := h.later ⟨rfl, rfl, rfl, Nat.le_refl _, fun _ _ => rfl⟩

/-- The keys are made. -/
theorem Idx.keyed {W : World} {xb n m1 : Nat} {v0 v1 mv v3 : Value} {vs0 vs1 us : List Value} (h : Idx W xb n v0 v1 mv v3 vs0 vs1 us m1) (mb : Nat) (hmb : xb < mb) {W' : World} (hm : W'.heap[mb]? = some (.map #[] 0)) (hb : Below W.heap.size (W.setCell ⟨xb, 2, none⟩ (.map (some mb))) W') :
    Idx W' xb n v0 v1 (.map (some mb)) v3 vs0 vs1 us m1 := by
  have hk : Kpt [xb] W W' := ⟨hb.os, hb.tape, hb.output, by have := hb.size; simpa [World.setCell] using this, fun b hb' hn => (hb.block b hb').trans (Below.heap_setCell _ _ _ _ (by simpa using hn))⟩
  have nt : ∀ e : TypeId, e ≠ 79 → NotTy W e [xb] := fun e he b hb cs fr hc => by
    obtain rfl : b = xb := by simpa using hb
    rw [h.cells] at hc; injection hc with h1; injection h1 with _ h2; exact he h2.symm
  exact ⟨(hb.block xb h.lt).trans (by simpa using Go.heap_setCell_same W xb 2 _ 79 _ h.cells), row_kpt h.sets hk (nt _ (by decide)), row_kpt h.fewer hk (nt _ (by decide)), h.few, .inr ⟨mb, #[], 0, rfl, hmb, hm, fun e he => by simp at he⟩, row_kpt h.hold hk (nt _ (by decide)), h.holdn, h.inner.kpt hk (nt _ (by decide))⟩

/-- How long the slice in a cell is. -/
def sl (b o : Nat) (W : World) : Nat := match W.cell? ⟨b, o, none⟩ with | some (.slice _ n _) => n | _ => 0

theorem kpt_put {W : World} {mb : Nat} {es : Array MapEntry} {clock : Nat} (h : W.heap[mb]? = some (.map es clock)) (o : Obj) : Kpt [mb] W (ChangeMaps.setBlock W mb o) :=
  ⟨rfl, rfl, rfl, by simp [ChangeMaps.setBlock], fun b _ hn => ChangeMaps.heap_setBlock_other h o (by simpa using hn)⟩

theorem Idx.put {W : World} {xb n m1 mb clock c' : Nat} {v0 v1 v3 : Value} {vs0 vs1 us : List Value} {es es' : Array MapEntry} (h : Idx W xb n v0 v1 (.map (some mb)) v3 vs0 vs1 us m1) (hm : W.heap[mb]? = some (.map es clock)) (hmb : xb < mb) (hk' : StrKeys es') :
    Idx (ChangeMaps.setBlock W mb (.map es' c')) xb n v0 v1 (.map (some mb)) v3 vs0 vs1 us m1 := by
  have hk := kpt_put hm (.map es' c')
  have nt : ∀ e : TypeId, NotTy W e [mb] := fun e b hb cs fr hc => by
    obtain rfl : b = mb := by simpa using hb
    rw [hm] at hc; cases hc
  exact ⟨(hk.block xb h.lt (by simp; omega)).trans h.cells, row_kpt h.sets hk (nt _), row_kpt h.fewer hk (nt _), h.few, .inr ⟨mb, es', c', rfl, hmb, ChangeMaps.heap_setBlock_same hm _, hk'⟩, row_kpt h.hold hk (nt _), h.holdn, h.inner.kpt hk (nt _)⟩

theorem kpt_grown {W W' : World} {row : Option Nat} (hg : W.grownBy W' row) : Kpt row.toList W W' :=
  ⟨hg.os, hg.tape, hg.output, hg.size, fun b hb hn => hg.block b hb (fun e => hn (by simp [← e]))⟩
theorem Fr.own {w W W' : World} {xb p ib i B : Nat} {sp : Option Addr} {len cap x : Nat} {row : Option Nat} (h : Fr w W xb p ib i sp len cap x) (hg : W.grownBy W' row) (hr : ∀ r, row = some r → B ≤ r ∧ ∃ o : Obj, W.heap[r]? = some o ∧ o.isCells = false) (hB : xb ≤ B) : Fr w W' xb p ib i sp len cap x := by
  refine h.kpt (kpt_grown hg) (fun b hb => ?_) (fun b hb => ?_)
  · have := (hr b (by simpa [Option.mem_def] using hb)).1; omega
  · obtain ⟨_, o, ho, hc⟩ := hr b (by simpa [Option.mem_def] using hb)
    have key : ∀ (c : Nat) (t : TypeId) (v : Value), Boxed W c t v → b ≠ c := fun c t v hbx e => by
      subst e; rw [show W.heap[b]? = _ from hbx] at ho; cases ho; cases hc
    exact ⟨key _ _ _ h.bx, key _ _ _ h.bs, key _ _ _ h.bi⟩
theorem Idx.own {W W' : World} {xb n m1 mb B : Nat} {v0 v1 v3 : Value} {vs0 vs1 us : List Value} {row : Option Nat} (h : Idx W xb n v0 v1 (.map (some mb)) v3 vs0 vs1 us m1) (hg : W.grownBy W' row) (hr : ∀ r, row = some r → B ≤ r ∧ ∃ o : Obj, W.heap[r]? = some o ∧ o.isCells = false) (hmb : mb < B) : Idx W' xb n v0 v1 (.map (some mb)) v3 vs0 vs1 us m1 := by
  have hk := kpt_grown hg
  have nc : ∀ b ∈ row.toList, ∀ cs t fr, W.heap[b]? ≠ some (.cells cs t fr) := fun b hb cs t fr h' => by
    obtain ⟨_, o, ho, hc⟩ := hr b (by simpa [Option.mem_def] using hb)
    rw [h'] at ho; cases ho; cases hc
  have nt : ∀ e : TypeId, NotTy W e row.toList := fun e b hb cs fr => nc b hb cs e fr
  refine ⟨(hk.block xb h.lt (fun hm => nc xb hm _ _ _ h.cells)).trans h.cells, row_kpt h.sets hk (nt _), row_kpt h.fewer hk (nt _), h.few, ?_, row_kpt h.hold hk (nt _), h.holdn, h.inner.kpt hk (nt _)⟩
  rcases h.keys with h1 | ⟨mb', es, clock, h1, h2, h3, h4⟩
  · exact .inl h1
  · obtain rfl : mb = mb' := by simpa using h1
    refine .inr ⟨mb, es, clock, rfl, h2, (hk.block mb (Array.getElem?_eq_some_iff.1 h3).1 (fun hm => ?_)).trans h3, h4⟩
    have := (hr mb (by simpa [Option.mem_def] using hm)).1; omega

/-- What holds between two rounds of add. -/
def Ia (w : World) (xb p ib Bs i : Nat) (sp : Option Addr) (len cap x mb : Nat) (v0 v1 : Value) (vs0 vs1 : List Value) (m1 : Nat) (_ : List Nat) (W : World) : Prop :=
  Fr w W xb p ib i sp len cap x ∧ Boxed W Bs 51 (.slice sp len cap) ∧ ∃ v3 us, Idx W xb i v0 v1 (.map (some mb)) v3 vs0 vs1 us m1

theorem Ia.own (w : World) (xb p ib Bs i : Nat) (sp : Option Addr) (len cap x mb : Nat) (v0 v1 : Value) (vs0 vs1 : List Value) (m1 B : Nat) (hB : xb ≤ B) (hmb : mb < B) : OwnFrom B (Ia w xb p ib Bs i sp len cap x mb v0 v1 vs0 vs1 m1) := by
  rintro pre A A' row ⟨h1, h2, v3, us, h3⟩ hg hr
  exact ⟨h1.own hg hr hB, box_kept h2 hg (fun r e => (hr r e).2), v3, us, h3.own hg hr hmb⟩

theorem Ia.mcap {w : World} {xb p ib Bs i : Nat} {sp : Option Addr} {len cap x mb : Nat} {v0 v1 : Value} {vs0 vs1 : List Value} {m1 : Nat} {pre : List Nat} {W : World} (h : Ia w xb p ib Bs i sp len cap x mb v0 v1 vs0 vs1 m1 pre W) : MCap Bs sp len cap x W := ⟨h.2.1.cell, h.1.wd, h.1.tab⟩

theorem kpt_others {L : List Nat} {W W' : World} (hk : Kpt L W W') (hL : ∀ b ∈ L, ∃ cs t fr, W.heap[b]? = some (.cells cs t fr)) : KeepsOthers W W' :=
  ⟨hk.size, fun b o hb ho => (hk.block b (Array.getElem?_eq_some_iff.1 hb).1 (fun hm => by
    obtain ⟨cs, t, fr, hc⟩ := hL b hm
    rw [hc] at hb; cases hb; cases ho)).trans hb⟩

theorem ne_ty {W : World} {b c : Nat} {cs cs' : Array Value} {t t' : TypeId} {fr fr' : Nat × Nat} (h : W.heap[b]? = some (.cells cs t fr)) (h' : W.heap[c]? = some (.cells cs' t' fr')) (hne : t ≠ t') : b ≠ c := fun e => by
  subst e; rw [h] at h'; injection h' with h1; injection h1 with _ h2; exact hne h2

/-- The state within a round of add. -/
structure Rd (w W0 : World) (xb p ib Bs i : Nat) (sp : Option Addr) (len cap x mb : Nat) (v0 v1 v3 : Value) (vs0 vs1 us : List Value) (m1 : Nat) (W : World) : Prop where
  fr : Fr w W xb p ib i sp len cap x
  bs : Boxed W Bs 51 (.slice sp len cap)
  idx : Idx W xb i v0 v1 (.map (some mb)) v3 vs0 vs1 us m1
  oth : KeepsOthers W0 W

theorem Rd.kpt {L : List Nat} {w W0 W W' : World} {xb p ib Bs i : Nat} {sp : Option Addr} {len cap x mb : Nat} {v0 v1 v3 v3' : Value} {vs0 vs1 us us' : List Value} {m1 : Nat} (h : Rd w W0 xb p ib Bs i sp len cap x mb v0 v1 v3 vs0 vs1 us m1 W) (hk : Kpt L W W')
    (hL : ∀ b ∈ L, xb ≤ b ∧ ∃ cs t, W.heap[b]? = some (.cells cs t (0, 0)) ∧ t ≠ 33 ∧ t ≠ 51 ∧ t ≠ 3) (hI : Idx W' xb i v0 v1 (.map (some mb)) v3' vs0 vs1 us' m1) : Rd w W0 xb p ib Bs i sp len cap x mb v0 v1 v3' vs0 vs1 us' m1 W' := by
  refine ⟨h.fr.kpt hk (fun b hb => (hL b hb).1) (fun b hb => ?_), box_kpt h.bs hk (fun hm => ?_), hI, h.oth.trans (kpt_others hk (fun b hb => by obtain ⟨_, cs, t, hc, _⟩ := hL b hb; exact ⟨cs, t, _, hc⟩))⟩
  · obtain ⟨_, cs, t, hc, h1, h2, h3⟩ := hL b hb
    exact ⟨ne_ty hc h.fr.bx h1, ne_ty hc h.fr.bs h2, ne_ty hc h.fr.bi h3⟩
  · obtain ⟨_, cs, t, hc, h1, h2, h3⟩ := hL Bs hm
    exact ne_ty hc h.bs h2 rfl

/-- 'holding' is one row longer. -/
theorem hold_step {w W0 wr w6 : World} {xb p ib Bs i : Nat} {sp : Option Addr} {len cap x mb : Nat} {v0 v1 v3 v3' : Value} {vs0 vs1 us : List Value} {m1 : Nat} {tmp : Obj} (h : Rd w W0 xb p ib Bs i sp len cap x mb v0 v1 v3 vs0 vs1 us m1 wr) (hn : us.length + 1 ≤ 12)
    (hg : (wr.alloc tmp).grownBy w6 v3.ownBlock) (ho : w6.ownsRow xb 49 1 v3' (us.length + 1) (us ++ [.slice none 0 0])) :
    (w6.cell? ⟨p, 0, none⟩ = some (.pointer (some ⟨xb, 0, none⟩)) ∧ w6.cell? ⟨xb, 3, none⟩ = some v3 ∧ w6.frozen? ⟨xb, 3, none⟩ = false) ∧ Rd w W0 xb p ib Bs i sp len cap x mb v0 v1 v3' vs0 vs1 (us ++ [.slice none 0 0]) m1 (w6.setCell ⟨xb, 3, none⟩ v3') := by
  have hx1 := blk_grow h.idx.cells h.idx.hold (by decide) hg
  have hp6 : Boxed w6 p 33 (.pointer (some ⟨xb, 0, none⟩)) := (h.fr.bx.alloc tmp).kept hg (fun e => by
    obtain ⟨cs, hc⟩ := own_ty h.idx.hold e.symm
    exact ne_ty hc h.fr.bx (by decide) rfl)
  refine ⟨⟨hp6.cell, by simp [World.cell?, hx1], by simp [World.frozen?, hx1]⟩, h.kpt (kpt_append (c := xb) (o := 3) (u := v3') hg) (fun b hb => ?_) (h.idx.hold_app hn hg ho)⟩
  rcases List.mem_cons.1 hb with rfl | hb
  · exact ⟨Nat.le_refl _, _, 79, h.idx.cells, by decide, by decide, by decide⟩
  · have hb' : v3.ownBlock = some b := by simpa [Option.mem_def] using hb
    obtain ⟨cs, hc⟩ := own_ty h.idx.hold hb'
    exact ⟨own_ge h.idx.hold hb', cs, 49, hc, by decide, by decide, by decide⟩

/-- A row of 'holding' is one word longer. -/
theorem inner_step {w W0 wr w6 : World} {xb p ib Bs i : Nat} {sp : Option Addr} {len cap x mb : Nat} {v0 v1 v3 u : Value} {vs0 vs1 us : List Value} {m1 q g3 c3 k g' cap' : Nat} {cur : Array Value} {zs : List Int} {tmp : Obj} (h : Rd w W0 xb p ib Bs i sp len cap x mb v0 v1 v3 vs0 vs1 us m1 wr)
    (hq : us[q]? = some u) (hv : v3 = .slice (some ⟨g3, 0, none⟩) us.length c3) (hgb : wr.heap[g3]? = some (.cells cur 49 (0, 0))) (hg3 : xb ≤ g3) (hkk : k + 1 ≤ 64) (hr : wr.ownsRow xb 91 1 u k (zs.map (Value.int .u64)))
    (hg : (wr.alloc tmp).grownBy w6 u.ownBlock) (ho : w6.ownsRow xb 91 1 (.slice (some ⟨g', 0, none⟩) (k + 1) cap') (k + 1) (zs.map (Value.int .u64) ++ [.int .u64 0])) (hat : u.ownBlock = some g' ∨ g' = (wr.alloc tmp).heap.size) :
    (w6.cell? ⟨p, 0, none⟩ = some (.pointer (some ⟨xb, 0, none⟩)) ∧ w6.cell? ⟨xb, 3, none⟩ = some v3 ∧ w6.cell? ⟨g3, q, none⟩ = some u ∧ w6.frozen? ⟨g3, q, none⟩ = false) ∧
      Rd w W0 xb p ib Bs i sp len cap x mb v0 v1 v3 vs0 vs1 (us.set q (.slice (some ⟨g', 0, none⟩) (k + 1) cap')) m1 (w6.setCell ⟨g3, q, none⟩ (.slice (some ⟨g', 0, none⟩) (k + 1) cap')) := by
  have hx1 := blk_grow h.idx.cells hr (by decide) hg
  have hx3 := blk_grow hgb hr (by decide) hg
  have hp6 : Boxed w6 p 33 (.pointer (some ⟨xb, 0, none⟩)) := (h.fr.bx.alloc tmp).kept hg (fun e => by
    obtain ⟨cs, hc⟩ := own_ty hr e.symm
    exact ne_ty hc h.fr.bx (by decide) rfl)
  have hcq : cur[q]? = some u := by
    obtain ⟨g3', c3', cur', hv', hgb', hcu, _⟩ := h.idx.hold_at hq
    have : g3 = g3' := by rw [hv] at hv'; simpa [Value.ownBlock] using congrArg Value.ownBlock hv'
    subst this
    rw [hgb] at hgb'
    obtain rfl : cur = cur' := by injection hgb' with a; injection a
    exact hcu
  refine ⟨⟨hp6.cell, by simp [World.cell?, hx1], by rw [cell_of_row w6 g3 q cur 49 _ hx3]; exact hcq, by simp [World.frozen?, hx3]⟩, h.kpt (kpt_append (c := g3) (o := q) hg) (fun b hb => ?_) (h.idx.inner_app hq hv hgb hkk hr hg ho (by simpa using hat))⟩
  rcases List.mem_cons.1 hb with rfl | hb
  · exact ⟨hg3, _, 49, hgb, by decide, by decide, by decide⟩
  · have hb' : u.ownBlock = some b := by simpa [Option.mem_def] using hb
    obtain ⟨cs, hc⟩ := own_ty hr hb'
    exact ⟨own_ge hr hb', cs, 91, hc, by decide, by decide, by decide⟩

/-- A word of a row of 'holding' is written. -/
theorem bit_step {w W0 wr : World} {xb p ib Bs i : Nat} {sp : Option Addr} {len cap x mb : Nat} {v0 v1 v3 : Value} {vs0 vs1 us : List Value} {m1 q gu j k cu : Nat} {z : Int} {cur : Array Value} (h : Rd w W0 xb p ib Bs i sp len cap x mb v0 v1 v3 vs0 vs1 us m1 wr)
    (hq : us[q]? = some (.slice (some ⟨gu, 0, none⟩) k cu)) (hgb : wr.heap[gu]? = some (.cells cur 91 (0, 0))) (hge : xb ≤ gu) : Rd w W0 xb p ib Bs i sp len cap x mb v0 v1 v3 vs0 vs1 us m1 (wr.setCell ⟨gu, j, none⟩ (.int .u64 z)) := by
  refine h.kpt (L := [gu]) ⟨rfl, rfl, rfl, by simp [World.setCell], fun b _ hn => Below.heap_setCell _ _ _ _ (by simpa using hn)⟩ (fun b hb => ?_) (h.idx.bit hq hgb)
  obtain rfl : b = gu := by simpa using hb
  exact ⟨hge, cur, 91, hgb, by decide, by decide, by decide⟩

theorem Rd.drew {w W0 W : World} {xb p ib Bs i : Nat} {sp : Option Addr} {len cap x mb : Nat} {v0 v1 v3 : Value} {vs0 vs1 us : List Value} {m1 : Nat} (h : Rd w W0 xb p ib Bs i sp len cap x mb v0 v1 v3 vs0 vs1 us m1 W) : Rd w W0 xb p ib Bs i sp len cap x mb v0 v1 v3 vs0 vs1 us m1 W.drew :=
  h.kpt (L := []) ⟨rfl, rfl, rfl, Nat.le_refl _, fun _ _ _ => rfl⟩ (by simp) (h.idx.later ⟨rfl, rfl, rfl, Nat.le_refl _, fun _ _ => rfl⟩)

/-- 'fewer' is one longer. -/
theorem few_step {w w5 w6 : World} {xb p ib i n m1 g' cap' : Nat} {sp : Option Addr} {len cap x : Nat} {v0 v1 mv v3 u : Value} {vs0 vs1 us : List Value} {tmp : Obj} (hF : Fr w w5 xb p ib i sp len cap x) (hI : Idx w5 xb n v0 v1 mv v3 vs0 vs1 us m1) (hv1 : v1.ownBlock ≠ some ib) (hm : m1 ≤ 12)
    (hg : (w5.alloc tmp).grownBy w6 v1.ownBlock) (ho : w6.ownsRow xb 3 1 (.slice (some ⟨g', 0, none⟩) (m1 + 1) cap') (m1 + 1) (vs1 ++ [u])) (hat : v1.ownBlock = some g' ∨ g' = (w5.alloc tmp).heap.size) :
    (w6.cell? ⟨p, 0, none⟩ = some (.pointer (some ⟨xb, 0, none⟩)) ∧ w6.cell? ⟨ib, 0, none⟩ = some (.int .i64 (i : Nat)) ∧ w6.cell? ⟨xb, 1, none⟩ = some v1 ∧ w6.frozen? ⟨xb, 1, none⟩ = false) ∧
    Fr w (w6.setCell ⟨xb, 1, none⟩ (.slice (some ⟨g', 0, none⟩) (m1 + 1) cap')) xb p ib i sp len cap x ∧ Idx (w6.setCell ⟨xb, 1, none⟩ (.slice (some ⟨g', 0, none⟩) (m1 + 1) cap')) xb n v0 (.slice (some ⟨g', 0, none⟩) (m1 + 1) cap') mv v3 vs0 (vs1 ++ [u]) us (m1 + 1) ∧
      (Value.slice (some ⟨g', 0, none⟩) (m1 + 1) cap').ownBlock ≠ some ib := by
  have hne : ∀ b, v1.ownBlock = some b → b ≠ p ∧ b ≠ p + 1 ∧ b ≠ ib := fun b hb => by
    obtain ⟨cs, hc⟩ := own_ty hI.fewer hb
    exact ⟨ne_ty hc hF.bx (by decide), ne_ty hc hF.bs (by decide), fun e => hv1 (by rw [hb, e])⟩
  have hx1 := blk_grow hI.cells hI.fewer (by decide) hg
  have hk : Kpt (xb :: v1.ownBlock.toList) w5 (w6.setCell ⟨xb, 1, none⟩ (.slice (some ⟨g', 0, none⟩) (m1 + 1) cap')) := kpt_append hg
  have hib := hF.bi.lt
  have lo := hF.lo
  have hp6 : Boxed w6 p 33 (.pointer (some ⟨xb, 0, none⟩)) := (hF.bx.alloc tmp).kept hg (fun e => (hne p e.symm).1 rfl)
  have hi6 : Boxed w6 ib 3 (.int .i64 (i : Nat)) := (hF.bi.alloc tmp).kept hg (fun e => (hne ib e.symm).2.2 rfl)
  refine ⟨⟨hp6.cell, hi6.cell, by simp [World.cell?, hx1], by simp [World.frozen?, hx1]⟩, hF.kpt hk (fun b hb => ?_) (fun b hb => ?_), hI.fewer_app (by omega) hg ho, ?_⟩
  · rcases List.mem_cons.1 hb with rfl | hb
    · exact Nat.le_refl _
    · exact own_ge hI.fewer (by simpa [Option.mem_def] using hb)
  · rcases List.mem_cons.1 hb with rfl | hb
    · omega
    · exact hne b (by simpa [Option.mem_def] using hb)
  · intro e
    have e1 : g' = ib := by simpa [Value.ownBlock] using e
    rcases hat with h | h
    · exact hv1 (by rw [h, e1])
    · simp at h; omega

end Go.Proofs.YbulkbvduFmt
