/-
  Seat b3582aD: (*SubsetIndex).add of the empty set to a new index.
-/
import Derived.Test.YbulkbvduDoorB
import Derived.Laws.BytesArg
import Derived.Deep.RegionLaw
import Derived.BigRegion
namespace Go.Proofs.YbulkbvduDoor
open Go.RowKit Go.Shelf Go.Maps

attribute [local go_sem] Oper.semAt_some
attribute [local go_sem ↓] Go.wp_at_zero Go.wp_at_succ

theorem keys9 : Keyed Ybad.prog 9 := string_keyed Ybad.underlying9

abbrev keys1 : Obj := .map #[{ key := .string ⟨#[]⟩, val := .bool true, born := 0 }] 1

theorem cell_setBlock {W : World} {b : Nat} {es : Array MapEntry} {clock : Nat} (hb : W.heap[b]? = some (.map es clock)) (o : Obj) (a : Addr) (hne : a.block ≠ b) : (ChangeMaps.setBlock W b o).cell? a = W.cell? a :=
  World.cell?_of_block (ChangeMaps.heap_setBlock_other hb o hne)
theorem frozen_setBlock {W : World} {b : Nat} {es : Array MapEntry} {clock : Nat} (hb : W.heap[b]? = some (.map es clock)) (o : Obj) (a : Addr) (hne : a.block ≠ b) : (ChangeMaps.setBlock W b o).frozen? a = W.frozen? a :=
  World.frozen?_of_block (ChangeMaps.heap_setBlock_other hb o hne)

theorem put_empty (W : World) (mb : Nat) (h : W.heap[mb]? = some (.map #[] 0)) :
    (Instr.mapUpdate 50 (.map (some mb)) (.string ⟨#[]⟩) (.bool true)).run Ybad.prog W = .ok () (ChangeMaps.setBlock W mb keys1) := by
  have hkey : keyOf Ybad.prog 9 (.string ⟨#[]⟩) = some (.string []) := WideMaps.keyOf_string_mk Ybad.underlying9 (s := ⟨#[]⟩) (Nat.zero_le _)
  rcases keys9.find W hkey [] (by simp) with ⟨f1, _⟩ | ⟨j, e0, _, f2, _⟩
  · simp [Instr.mapUpdate, run_underlying Ybad.underlying50, keys9.check W _ hkey, f1, MapKept.run_getObj_map h, Result.andThen, go_sem]
    exact MapKept.run_setObj_map _ h
  · simp at f2

set_option maxHeartbeats 4000000 in
set_option maxRecDepth 100000 in
theorem add_empty (xb : Nat) (w : World) (c0 : w.cell? ⟨xb, 0, none⟩ = some (.slice none 0 0)) (c1 : w.cell? ⟨xb, 1, none⟩ = some (.slice none 0 0)) (c2 : w.cell? ⟨xb, 2, none⟩ = some (.map none))
    (f0 : w.frozen? ⟨xb, 0, none⟩ = false) (f1 : w.frozen? ⟨xb, 1, none⟩ = false) (f2 : w.frozen? ⟨xb, 2, none⟩ = false) :
    Calls Ybad.prog 14 #[.pointer (some ⟨xb, 0, none⟩), set0] w fun e w' => e = .returned (.tuple #[]) ∧ Below xb w w' := by
  have hxb : xb < w.heap.size := World.block_lt_of_cell? _ _ c0
  have hx1 : xb < w.heap.size + 1 := by omega
  have hx2 : xb < w.heap.size + 1 + 1 := by omega
  have hmm := @run_makeMap Ybad.prog
  have hqn := fun w r => run_eql_map_nil (P := Ybad.prog) w 50 _ _ r Ybad.underlying50
  have hcv : ∀ W, (convert 62 9 (.slice none 0 0)).run Ybad.prog W = .ok (.string ⟨#[]⟩) W := fun W => by kernel_rfl
  refine (callsIn_wide (n := 5)).1 ?_
  refine callsIn_of_wp_marks Ybad.func14 rfl trivial ?_ rfl
  refine wpIn_wide.2 ?_
  simp only [Ybad.ntmps14, List.size_toArray, List.length_cons, List.length_nil, Nat.reduceAdd, Nat.reduceSub, Array.replicate_succ, Array.replicate_zero, List.push_toArray, List.append_toArray, List.nil_append, List.cons_append]
  go_wp2_with fail
  obtain ⟨p, hp⟩ : ∃ p, p = w.heap.size := ⟨_, rfl⟩
  obtain ⟨W2, hW2⟩ : ∃ W2 : World, W2 = (((w.setCell ⟨xb, 2, none⟩ (.map (some (w.heap.size + 1 + 1)))).alloc (.cells #[.pointer (some ⟨xb, 0, none⟩)] 34)).alloc (.cells #[.slice none 0 0] 26)).alloc (.map #[] 0) := ⟨_, rfl⟩
  rw [← hW2]
  have e0 : W2.cell? ⟨xb, 0, none⟩ = some (.slice none 0 0) := by rw [hW2]; go_simp
  have e1 : W2.cell? ⟨xb, 1, none⟩ = some (.slice none 0 0) := by rw [hW2]; go_simp
  have e2 : W2.cell? ⟨xb, 2, none⟩ = some (.map (some (p + 1 + 1))) := by rw [hW2, hp]; go_simp
  have ep : W2.cell? ⟨p, 0, none⟩ = some (.pointer (some ⟨xb, 0, none⟩)) := by rw [hW2, hp]; go_simp
  have es : W2.cell? ⟨p + 1, 0, none⟩ = some (.slice none 0 0) := by rw [hW2, hp]; go_simp
  have g0 : W2.frozen? ⟨xb, 0, none⟩ = false := by rw [hW2]; go_simp
  have g1 : W2.frozen? ⟨xb, 1, none⟩ = false := by rw [hW2]; go_simp
  have em : W2.heap[p + 1 + 1]? = some (.map #[] 0) := by rw [hW2, hp]; simpa using heap_alloc_new (((w.setCell ⟨xb, 2, none⟩ (.map (some (w.heap.size + 1 + 1)))).alloc (.cells #[.pointer (some ⟨xb, 0, none⟩)] 34)).alloc (.cells #[.slice none 0 0] 26)) (.map #[] 0)
  have hs2 : W2.heap.size = p + 1 + 1 + 1 := by rw [hW2, hp]; simp
  have hb2 : Below xb w W2 := by rw [hW2]; exact ((((Below.refl xb w).setCell (p := ⟨xb, 2, none⟩) (Nat.le_refl _) _).alloc (by simp; omega) _).alloc (by simp; omega) _).alloc (by simp; omega) _
  have hpx : xb < p := by rw [hp]; exact hxb
  rw [← hp]
  have HB2 : Hid _ := hb2
  clear hW2 hp hb2 c0 c1 c2 f0 f1 f2 hxb hx1 hx2 hmm hqn
  have hha : ∀ (W : World) (o o' : Obj), W.heap[p + 1 + 1]? = some o' → (W.alloc o).heap[p + 1 + 1]? = some o' := fun W o o' h => (Below.heap_alloc W o _ (Array.getElem?_eq_some_iff.1 h).1).trans h
  have hmu := put_empty (W2.alloc (.cells #[.slice none 0 0] 26)).drew (p + 1 + 1) (hha _ _ _ em)
  obtain ⟨W3, hW3⟩ : ∃ W3 : World, W3 = ChangeMaps.setBlock (W2.alloc (.cells #[.slice none 0 0] 26)).drew (p + 1 + 1) keys1 := ⟨_, rfl⟩
  rw [← hW3] at hmu
  have em3 : (W2.alloc (.cells #[.slice none 0 0] 26)).drew.heap[p + 1 + 1]? = some (.map #[] 0) := hha _ _ _ em
  have c3 : ∀ a : Addr, a.block < p + 1 + 1 → W3.cell? a = W2.cell? a := fun a ha => by
    rw [hW3, cell_setBlock em3 _ _ (by omega)]
    exact ((Below.refl _ W2).alloc (Nat.le_refl _) _).cell (by omega)
  have f3 : ∀ a : Addr, a.block < p + 1 + 1 → W3.frozen? a = W2.frozen? a := fun a ha => by
    rw [hW3, frozen_setBlock em3 _ _ (by omega)]
    exact ((Below.refl _ W2).alloc (Nat.le_refl _) _).frozen (by omega)
  have e0' := (c3 ⟨xb, 0, none⟩ (by simp; omega)).trans e0
  have e1' := (c3 ⟨xb, 1, none⟩ (by simp; omega)).trans e1
  have e2' := (c3 ⟨xb, 2, none⟩ (by simp; omega)).trans e2
  have ep' := (c3 ⟨p, 0, none⟩ (by simp; omega)).trans ep
  have es' := (c3 ⟨p + 1, 0, none⟩ (by simp)).trans es
  have g0' := (f3 ⟨xb, 0, none⟩ (by simp; omega)).trans g0
  have g1' := (f3 ⟨xb, 1, none⟩ (by simp; omega)).trans g1
  have hs3 : W3.heap.size = p + 1 + 1 + 1 + 1 := by rw [hW3]; simp [ChangeMaps.setBlock, hs2]
  have HB3 : Hid (Below xb w W3) := by
    rw [hW3]
    refine ((HB2.out.alloc (by omega) _).drew).trans ⟨rfl, rfl, rfl, by simp [ChangeMaps.setBlock], fun k hk => ChangeMaps.heap_setBlock_other em3 _ (by omega)⟩
  clear hW3 c3 f3 em3 hha HB2
  go_region_held3 (fun w' => w'.cell? ⟨p, 0, none⟩ = some (.pointer (some ⟨xb, 0, none⟩)) ∧ w'.cell? ⟨xb, 2, none⟩ = some (.map (some (p + 1 + 1))) ∧ w'.cell? ⟨p + 1, 0, none⟩ = some (.slice none 0 0)) (go_keep)
    (first | (go_at_call 22; refine (key_empty _).mono ?_; rintro e w' ⟨rfl, rfl⟩))
  clear e0 e1 e2 ep es g0 g1 em hs2
  clear hmu hcv
  go_wp2_with fail
  obtain ⟨W4, hW4⟩ : ∃ W4 : World, W4 = W3.alloc (.cells #[.int .i64 0] 3) := ⟨_, rfl⟩
  rw [← hW4]
  have d0 : W4.cell? ⟨xb, 0, none⟩ = some (.slice none 0 0) := by rw [hW4]; exact cell_later ((Below.refl _ W3).alloc (Nat.le_refl _) _) e0'
  have d1 : W4.cell? ⟨xb, 1, none⟩ = some (.slice none 0 0) := by rw [hW4]; exact cell_later ((Below.refl _ W3).alloc (Nat.le_refl _) _) e1'
  have dp : W4.cell? ⟨p, 0, none⟩ = some (.pointer (some ⟨xb, 0, none⟩)) := by rw [hW4]; exact cell_later ((Below.refl _ W3).alloc (Nat.le_refl _) _) ep'
  have ds : W4.cell? ⟨p + 1, 0, none⟩ = some (.slice none 0 0) := by rw [hW4]; exact cell_later ((Below.refl _ W3).alloc (Nat.le_refl _) _) es'
  have di : W4.cell? ⟨p + 1 + 1 + 1 + 1, 0, none⟩ = some (.int .i64 0) := by rw [hW4, ← hs3]; go_simp
  have q0 : W4.frozen? ⟨xb, 0, none⟩ = false := by rw [hW4, World.frozen?_alloc_past _ _ _ (by show xb < W3.heap.size; omega)]; exact g0'
  have q1 : W4.frozen? ⟨xb, 1, none⟩ = false := by rw [hW4, World.frozen?_alloc_past _ _ _ (by show xb < W3.heap.size; omega)]; exact g1'
  have hs4 : W4.heap.size = p + 1 + 1 + 1 + 1 + 1 := by rw [hW4]; simp [hs3]
  have HB4 : Hid (Below xb w W4) := by rw [hW4]; exact HB3.out.alloc (by omega) _
  clear hW4 e0' e1' e2' ep' es' g0' g1' hs3 HB3
  refine wp_loop_rounds 2 ?_
  rw [rounds_succ]
  go_wp2_with fail
  go_region_held3 (fun w' => w'.cell? ⟨p, 0, none⟩ = some (.pointer (some ⟨xb, 0, none⟩)) ∧ w'.cell? ⟨xb, 1, none⟩ = some (.slice none 0 0) ∧ w'.cell? ⟨p + 1, 0, none⟩ = some (.slice none 0 0)) (go_keep)
    (first | (go_at_call 9; refine (len_empty _).mono ?_; rintro e w' ⟨rfl, rfl⟩))
  go_wp2_with fail
  obtain ⟨W5, hW5⟩ : ∃ W5 : World, W5 = (W4.alloc (.cells #[.slice none 0 0] 26)).drew := ⟨_, rfl⟩
  rw [← hW5]
  have bel5 : Below W4.heap.size W4 W5 := by rw [hW5]; exact ((Below.refl _ W4).alloc (Nat.le_refl _) _).drew
  have a0 := cell_later bel5 d0
  have a1 := cell_later bel5 d1
  have ap := cell_later bel5 dp
  have as' := cell_later bel5 ds
  have ai := cell_later bel5 di
  have r0 : W5.frozen? ⟨xb, 0, none⟩ = false := by rw [bel5.frozen (by show xb < _; omega)]; exact q0
  have r1 : W5.frozen? ⟨xb, 1, none⟩ = false := by rw [bel5.frozen (by show xb < _; omega)]; exact q1
  have hs5 : W5.heap.size = p + 1 + 1 + 1 + 1 + 1 + 1 := by rw [hW5]; simp [hs4]
  have HB5 : Hid (Below xb w W5) := HB4.out.trans (bel5.mono (by omega))
  clear hW5 bel5 d0 d1 dp ds di q0 q1 hs4 HB4
  have hx6 : xb < p + 1 + 1 + 1 + 1 + 1 + 1 := by omega
  have hnc : ¬ 281474976710656 < Builtin.nextslicecap 1 0 * Ybad.t3.bytes := by decide +kernel
  refine wp_region_noPanic ?_
  go_region
  clear hnc hx6
  generalize (Question.appendCap 1 0 3).cut (W5.tape (W5.drawn + 1) (Question.appendCap 1 0 3)) = cap
  generalize Obj.cells (#[Value.int IntKind.i64 0] ++ Builtin.zeroCells #[Value.int IntKind.i64 0] (cap - 1)) 3 = ob
  obtain ⟨W6, hW6⟩ : ∃ W6 : World, W6 = (((W5.setCell ⟨xb, 1, none⟩ (.slice (some ⟨p + 1 + 1 + 1 + 1 + 1 + 1 + 1, 0, none⟩) 1 cap)).alloc (.cells #[.int .i64 0] 3)).alloc ob).drew.drew := ⟨_, rfl⟩
  rw [← hW6]
  have bel6 : ∀ (u : Value), Below W5.heap.size (W5.setCell ⟨xb, 1, none⟩ u) ((((W5.setCell ⟨xb, 1, none⟩ u).alloc (.cells #[.int .i64 0] 3)).alloc ob).drew.drew) := fun u => ((((Below.refl _ _).alloc (by simp [World.setCell]) _).alloc (by simp [World.setCell]) _).drew).drew
  have sc : ∀ (u : Value) (a : Addr) (v : Value), a ≠ ⟨xb, 1, none⟩ → W5.cell? a = some v → ((((W5.setCell ⟨xb, 1, none⟩ u).alloc (.cells #[.int .i64 0] 3)).alloc ob).drew.drew).cell? a = some v := fun u a v hne h => by
    rw [(bel6 u).cell (World.block_lt_of_cell? _ _ h), World.cell?_setCell_other _ _ _ _ (Ne.symm hne)]; exact h
  have b0 : W6.cell? ⟨xb, 0, none⟩ = some (.slice none 0 0) := by rw [hW6]; exact sc _ _ _ (by simp) a0
  have b1 : W6.cell? ⟨xb, 1, none⟩ = some (.slice (some ⟨p + 1 + 1 + 1 + 1 + 1 + 1 + 1, 0, none⟩) 1 cap) := by
    rw [hW6, (bel6 _).cell (by show xb < _; omega)]; exact World.cell?_setCell_same' _ _ _ (by rw [a1]; rfl)
  have bp : W6.cell? ⟨p, 0, none⟩ = some (.pointer (some ⟨xb, 0, none⟩)) := by rw [hW6]; exact sc _ _ _ (by simp) ap
  have bs : W6.cell? ⟨p + 1, 0, none⟩ = some (.slice none 0 0) := by rw [hW6]; exact sc _ _ _ (by simp) as'
  have t0 : W6.frozen? ⟨xb, 0, none⟩ = false := by rw [hW6, (bel6 _).frozen (by show xb < _; omega), World.frozen?_setCell]; exact r0
  have hs6 : W6.heap.size = p + 1 + 1 + 1 + 1 + 1 + 1 + 1 + 1 := by rw [hW6]; simp [hs5]
  have HB6 : Hid (Below xb w W6) := by
    rw [hW6]; exact (HB5.out.setCell (p := ⟨xb, 1, none⟩) (Nat.le_refl _) _).trans ((bel6 _).mono (by omega))
  clear hW6 bel6 sc a0 a1 ap as' ai r0 r1 hs5 HB5
  refine NoPanic.normal ?_
  go_wp2_with fail
  rw [rounds_succ]
  go_wp2_with fail
  go_region_held3 (fun w' => w'.cell? ⟨p, 0, none⟩ = some (.pointer (some ⟨xb, 0, none⟩)) ∧ w'.cell? ⟨xb, 1, none⟩ = some (.slice (some ⟨p + 1 + 1 + 1 + 1 + 1 + 1 + 1, 0, none⟩) 1 cap) ∧ w'.cell? ⟨p + 1, 0, none⟩ = some (.slice none 0 0)) (go_keep)
    (first | (go_at_call 9; refine (len_empty _).mono ?_; rintro e w' ⟨rfl, rfl⟩))
  go_wp2_with fail
  refine (members_any _).mono ?_
  rintro e w' ⟨rfl, rfl⟩
  go_wp2_with fail
  obtain ⟨W7, hW7⟩ : ∃ W7 : World, W7 = ((W6.alloc (.cells #[.slice none 0 0] 26)).alloc (.cells #[.slice none 0 0] 26)).drew := ⟨_, rfl⟩
  rw [← hW7]
  have bel7 : Below W6.heap.size W6 W7 := by rw [hW7]; exact (((Below.refl _ W6).alloc (Nat.le_refl _) _).alloc (by simp) _).drew
  have m0 := cell_later bel7 b0
  have mp := cell_later bel7 bp
  have ms := cell_later bel7 bs
  have mq : W7.cell? ⟨p + 1 + 1 + 1 + 1 + 1 + 1 + 1 + 1 + 1, 0, none⟩ = some (.slice none 0 0) := by rw [hW7, ← hs6]; go_simp
  have n0 : W7.frozen? ⟨xb, 0, none⟩ = false := by rw [bel7.frozen (by show xb < _; omega)]; exact t0
  have hs7 : W7.heap.size = p + 10 := by rw [hW7]; simp [hs6]
  have HB7 : Hid (Below xb w W7) := HB6.out.trans (bel7.mono (by omega))
  clear hW7 bel7 b0 b1 bp bs t0 hs6 HB6
  refine (wpIn_wide (n := 5)).1 ?_
  refine wpIn_rangeFunc_ownF rfl (by decide) (gf := 16) (lb := #[.pointer (some ⟨p + 1 + 1 + 1 + 1 + 1 + 1 + 1 + 1 + 1, 0, none⟩)]) rfl trivial (enters_of Ybad.func16 (by kernel_rfl) rfl)
    (members_stops 4 (p + 1 + 1 + 1 + 1 + 1 + 1 + 1 + 1 + 1) xb W7 (by omega) mq) belowK_t (belowK_b (by omega)) (Below.refl _ _) (fun x => x.elim)
    (fun _ W => Below W7.heap.size W7 W) (fun _ _ _ => False) (ownFrom_below (Nat.le_refl _) (Nat.le_refl _)) (fun _ _ _ _ _ hs _ _ => hs) (Below.refl _ _) (fun x => x.elim) (fun _ x => x.elim) (fun _ _ x => x.elim) ?done ?stop
  case stop =>
    rintro D c pre W _ h _ _
    exact h.elim
  rintro D ys W hD rfl hB hK
  have x0 := cell_later hB m0
  have xp := cell_later hB mp
  have xs := cell_later hB ms
  have y0 : W.frozen? ⟨xb, 0, none⟩ = false := by rw [hB.frozen (by show xb < _; omega)]; exact n0
  have hxW : xb < W.heap.size := by have := hB.size; omega
  have hpW : p < W.heap.size := by have := hB.size; omega
  have hqW : p + 1 < W.heap.size := by have := hB.size; omega
  have hxW1 : xb < W.heap.size + 1 := by omega
  have hpW1 : p < W.heap.size + 1 := by omega
  have hqW1 : p + 1 < W.heap.size + 1 := by omega
  have HBW : Hid (Below xb w W) := HB7.out.trans (hB.mono (by omega))
  have HK : Hid _ := hK
  have HD : Hid (xb ≤ D) := by show xb ≤ D; omega
  have hnc : ¬ 281474976710656 < Builtin.nextslicecap 1 0 * Ybad.t26.bytes := by decide +kernel
  clear hB hK hD m0 mp ms mq n0 hs7 HB7
  go_wp2_with fail
  refine wp_region_noPanic ?_
  go_region
  generalize (Question.appendCap 1 0 26).cut (W.tape (W.drawn + 1) (Question.appendCap 1 0 26)) = cap2
  generalize Obj.cells (#[Value.slice none 0 0] ++ Builtin.zeroCells #[Value.slice none 0 0] (cap2 - 1)) 26 = ob2
  refine NoPanic.normal ?_
  have hK1 := (KeepsOthers.setCell W ⟨xb, 0, none⟩ (.slice (some ⟨W.heap.size + 1, 0, none⟩) 1 cap2)).same D _ HK.out rfl
  have hD1 : D < (W.setCell ⟨xb, 0, none⟩ (.slice (some ⟨W.heap.size + 1, 0, none⟩) 1 cap2)).heap.size := (Array.getElem?_eq_some_iff.1 hK1).1
  have hB2 : Below xb w ((((W.setCell ⟨xb, 0, none⟩ (.slice (some ⟨W.heap.size + 1, 0, none⟩) 1 cap2)).alloc (.cells #[.slice none 0 0] 26)).alloc ob2).drew.drew) :=
    (((((HBW.out.setCell (p := ⟨xb, 0, none⟩) (Nat.le_refl _) _).alloc (by simp; omega) _).alloc (by simp; omega) _).drew).drew)
  have hK2 : ((((W.setCell ⟨xb, 0, none⟩ (.slice (some ⟨W.heap.size + 1, 0, none⟩) 1 cap2)).alloc (.cells #[.slice none 0 0] 26)).alloc ob2).drew.drew).heap[D]? = some (.deferred (some [])) := by
    show (((W.setCell ⟨xb, 0, none⟩ (.slice (some ⟨W.heap.size + 1, 0, none⟩) 1 cap2)).alloc (.cells #[.slice none 0 0] 26)).alloc ob2).heap[D]? = _
    rw [Below.heap_alloc _ _ _ (by simp at hD1 ⊢; omega), Below.heap_alloc _ _ _ hD1]
    exact hK1
  refine ⟨by simp, .inl ⟨_, _, rfl, run_takeDeferred hK2, ?_⟩⟩
  exact ⟨_, results_none rfl _ _ _, rfl, hB2.trans ((Below.refl xb _).grown (grownBy_putObj' _ D _) (by simp; omega) (fun k e => by cases e; exact HD.out))⟩

end Go.Proofs.YbulkbvduDoor
