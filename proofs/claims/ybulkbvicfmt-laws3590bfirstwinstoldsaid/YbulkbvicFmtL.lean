/-
  Seat b3590aF: errorf: one error more on the report's list.
-/
import Derived.Test.YbulkbvicFmtK
import Derived.Deep.AppendLies
import Derived.Deep.RegionLaw
import Derived.Deep.OwnRows
namespace Go.Proofs.YbulkbvicFmt
open Go.RowKit Go.Extern.Stop Go.Stop Go.Extern

theorem Ybaf.info51 : (Ybaf.prog.info? 51).map (fun i => (i.zero, i.size, i.bytes)) = some (some (.pointer none), 1, 8) := by kernel_rfl

/-- The message's format. -/
abbrev msgF : ByteArray := ⟨#[116, 121, 112, 101, 32, 37, 115, 32, 105, 115, 32, 100, 101, 99, 108, 97, 114, 101, 100, 32, 116, 119, 105, 99, 101, 59, 32, 102, 105, 114, 115, 116, 32, 111, 110, 32, 37, 115]⟩
theorem msg_printed : FmtStop.printed? msgF 2 = some [(0, 115, false), (1, 115, false)] := by kernel_rfl

set_option maxHeartbeats 1000000 in
/-- fmt.Sprintf at two strings, as one step of a region that draws: some text. -/
theorem step_sprintf {ops : Array Oper} {o : Oper} {a : Act} {w : World} {K : Act → World → Prop} {Q : Exit → Act → World → Prop} {E : Prop} (hgd : o.guard = none) (f x : Operand)
    (ho : o.op = .call { callee := .value (.func 28), args := #[f, x], argTypes := #[9, 107] }) (s1 s2 : ByteArray) (ob : Nat)
    (hf : a.eval f = .string msgF) (hx : a.eval x = .slice (some ⟨ob, 0, none⟩) 2 2) (c1 : w.cell? ⟨ob, 0, none⟩ = some (.iface 9 (.string s1))) (c2 : w.cell? ⟨ob, 1, none⟩ = some (.iface 9 (.string s2)))
    (h : ∀ s, K (a.put o.dst (.string s)) w.drew) : if Region.wanted o (yielded ops a.tmps) = true then Oper.wp Ybaf.prog o a w K Q else E := by
  have hw : Region.wanted o (yielded ops a.tmps) = true := by simp [Region.wanted, hgd]
  rw [if_pos hw]
  have he : a.eval (.func 28) = .func (.func 28) #[] #[] := rfl
  have h2 := guard28
  have h3 := msg_printed
  have h4 := act9_115
  have h5 := op9_115
  unfold Oper.wp
  simp [execOp, ho, resolve, invoke, hf, hx, he, Deferred.ofValue, call28]
  go_simp
  apply rows_value nextTurns
  case hr =>
    go_simp
    exact ⟨rfl, rfl⟩
  case h => exact h _

theorem lt_of_cell {w : World} {b o : Nat} {v : Value} (h : w.cell? ⟨b, o, none⟩ = some v) : b < w.heap.size := by
  simp only [World.cell?] at h
  split at h
  · rename_i hh; exact (Array.getElem?_eq_some_iff.1 hh).1
  · cases h
theorem one_news {v u : Value} {j : Nat} (h : [v][j]? = some u) : j = 0 ∧ u = v := by
  cases j with
  | zero => exact ⟨rfl, by simpa using h.symm⟩
  | succ n => simp at h

/-- Nothing that was there has turned but the blocks of the list L. -/
structure Kept (L : List Nat) (w w' : World) : Prop where
  os : w'.os = w.os
  tape : w'.tape = w.tape
  output : w'.output = w.output
  size : w.heap.size ≤ w'.heap.size
  block : ∀ k, k < w.heap.size → k ∉ L → w'.heap[k]? = w.heap[k]?

theorem own_ne {w : World} {B rb m : Nat} {fv : Value} {xs : List Value} {cur : Array Value} (hr : w.heap[rb]? = some (.cells cur 42 (0, 0))) (hown : w.ownsRow B 51 1 fv m xs) : some rb ≠ fv.ownBlock := by
  rcases hown.2 with ⟨rfl, _⟩ | ⟨g, cap, cur', rfl, _, hg, _⟩
  · simp [Value.ownBlock]
  · simp only [Value.ownBlock]
    intro h
    simp at h
    subst h
    rw [hr] at hg
    simp at hg

/-- What errorf leaves behind. -/
def ErrPost (rb B m : Nat) (l c : Int) (fv : Value) (xs cs : List Value) (w w' : World) : Prop :=
  ∃ g cap eb s, w'.heap[rb]? = some (.cells (cs.set 1 (.slice (some ⟨g, 0, none⟩) (m + 1) cap)).toArray 42 (0, 0)) ∧
    w'.ownsRow B 51 1 (.slice (some ⟨g, 0, none⟩) (m + 1) cap) (m + 1) (xs ++ [.pointer (some ⟨eb, 0, none⟩)]) ∧
    w'.heap[eb]? = some (.cells #[.string ⟨#[]⟩, .int .i64 l, .int .i64 c, .string s, .bool false] 53 (0, 0)) ∧ w.heap.size ≤ eb ∧ Kept (rb :: fv.ownBlock.toList) w w'

theorem err_end {rb B m g cap : Nat} {l c : Int} {fv : Value} {xs cs : List Value} {s : ByteArray} {w w1 : World} (hr : w.heap[rb]? = some (.cells cs.toArray 42 (0, 0))) (hown : w.ownsRow B 51 1 fv m xs)
    (hgrow : (((w.alloc (.cells #[.int .i64 l, .int .i64 c] 49)).alloc (.cells #[.string ⟨#[]⟩, .int .i64 l, .int .i64 c, .string s, .bool false] 53)).alloc (.cells #[.pointer (some ⟨w.heap.size + 1, 0, none⟩)] 51)).grownBy w1 fv.ownBlock)
    (hown1 : w1.ownsRow B 51 1 (.slice (some ⟨g, 0, none⟩) (m + 1) cap) (m + 1) (xs ++ [.pointer (some ⟨w.heap.size + 1, 0, none⟩)])) :
    ErrPost rb B m l c fv xs cs w (w1.setCell ⟨rb, 1, none⟩ (.slice (some ⟨g, 0, none⟩) (m + 1) cap)) := by
  have hrb : rb < w.heap.size := (Array.getElem?_eq_some_iff.1 hr).1
  have hne := own_ne hr hown
  have hsz : w.heap.size + 3 ≤ w1.heap.size := by have := hgrow.size; simpa using this
  have hold : ∀ k, k < w.heap.size → some k ≠ fv.ownBlock → w1.heap[k]? = w.heap[k]? := fun k hk hkn => by
    rw [hgrow.block k (by simp; omega) hkn]
    show (((w.heap.push _).push _).push _)[k]? = _
    rw [Array.getElem?_push, if_neg (by simp; omega), Array.getElem?_push, if_neg (by simp; omega), Array.getElem?_push, if_neg (by omega)]
  have hown2 : some (w.heap.size + 1) ≠ fv.ownBlock := by
    rcases hown.2 with ⟨rfl, _⟩ | ⟨g', cap', cur', rfl, _, hg', _⟩
    · simp [Value.ownBlock]
    · have := (Array.getElem?_eq_some_iff.1 hg').1
      simp [Value.ownBlock]
      omega
  have heb : w1.heap[w.heap.size + 1]? = some (.cells #[.string ⟨#[]⟩, .int .i64 l, .int .i64 c, .string s, .bool false] 53 (0, 0)) := by
    rw [hgrow.block (w.heap.size + 1) (by simp) hown2]
    show (((w.heap.push _).push _).push _)[w.heap.size + 1]? = _
    rw [Array.getElem?_push, if_neg (by simp), Array.getElem?_push, if_pos (by simp)]
  have hrb1 : w1.heap[rb]? = some (.cells cs.toArray 42 (0, 0)) := (hold rb hrb hne).trans hr
  refine ⟨g, cap, w.heap.size + 1, s, ?_, ?_, ?_, by omega, ?_⟩
  · show (w1.setCell _ _).heap[rb]? = _
    simp [World.setCell, Array.getElem?_modify, hrb1]
  · refine ownsRow_setCell_other hown1 (fun h => ?_) _
    exact own_ne hrb1 hown1 h.symm
  · rw [show (w1.setCell ⟨rb, 1, none⟩ (.slice (some ⟨g, 0, none⟩) (m + 1) cap)).heap[w.heap.size + 1]? = w1.heap[w.heap.size + 1]? from Below.heap_setCell _ _ _ _ (by simp; omega)]
    exact heb
  · refine ⟨hgrow.os, hgrow.tape, hgrow.output, by simp [World.setCell]; omega, fun k hk hkn => ?_⟩
    simp only [List.mem_cons, not_or] at hkn
    rw [Below.heap_setCell _ _ _ _ (by simpa using hkn.1)]
    refine hold k hk fun h => hkn.2 ?_
    rw [← h]; simp

theorem err_cell {rb g' : Nat} {fv : Value} {w w1 : World} {P E S : Obj} (hrb : rb < w.heap.size) (hcf : w.cell? ⟨rb, 1, none⟩ = some fv) (hff : w.frozen? ⟨rb, 1, none⟩ = false) (hne : some rb ≠ fv.ownBlock)
    (hgrow : (((w.alloc P).alloc E).alloc S).grownBy w1 fv.ownBlock) (_ : g' = g') : w1.cell? ⟨rb, 1, none⟩ = some fv ∧ w1.frozen? ⟨rb, 1, none⟩ = false := by
  have hb : Below w.heap.size w (((w.alloc P).alloc E).alloc S) := (((Below.refl _ w).alloc (Nat.le_refl _) _).alloc (by simp) _).alloc (by simp; omega) _
  have hlt : rb < (((w.alloc P).alloc E).alloc S).heap.size := Nat.lt_of_lt_of_le hrb hb.size
  exact ⟨(hgrow.cell_far ⟨rb, 1, none⟩ hlt hne).trans (cell_later hb hcf), (hgrow.frozen_far ⟨rb, 1, none⟩ hlt hne).trans ((hb.frozen (p := ⟨rb, 1, none⟩) hrb).trans hff)⟩

set_option maxHeartbeats 4000000 in
set_option maxRecDepth 100000 in
theorem errorf_any (rb B m : Nat) (l c : Int) (fv : Value) (xs cs : List Value) (s1 s2 : ByteArray) (ob : Nat) (w : World)
    (hm : m ≤ 2000) (hB : B ≤ w.heap.size) (hr : w.heap[rb]? = some (.cells cs.toArray 42 (0, 0))) (hc1 : cs[1]? = some fv) (hown : w.ownsRow B 51 1 fv m xs)
    (o1 : w.cell? ⟨ob, 0, none⟩ = some (.iface 9 (.string s1))) (o2 : w.cell? ⟨ob, 1, none⟩ = some (.iface 9 (.string s2))) :
    Calls Ybaf.prog 18 #[.pointer (some ⟨rb, 0, none⟩), posV l c, .string msgF, .slice (some ⟨ob, 0, none⟩) 2 2] w fun e w' => e = .returned (.tuple #[]) ∧ ErrPost rb B m l c fv xs cs w w' := by
  obtain ⟨i0, hi, hzz⟩ := Option.map_eq_some_iff.1 Ybaf.info51
  simp only [Prod.mk.injEq] at hzz
  obtain ⟨hz0, hz1, hz2⟩ := hzz
  have hcf : w.cell? ⟨rb, 1, none⟩ = some fv := by simp [World.cell?, hr, hc1]
  have hff : w.frozen? ⟨rb, 1, none⟩ = false := by simp [World.frozen?, hr]
  have hrb : rb < w.heap.size := (Array.getElem?_eq_some_iff.1 hr).1
  have hob : ob < w.heap.size := lt_of_cell o1
  have hrb1 : rb < w.heap.size + 1 := by omega
  have hrb2 : rb < w.heap.size + 1 + 1 := by omega
  have hob1 : ob < w.heap.size + 1 := by omega
  have hob2 : ob < w.heap.size + 1 + 1 := by omega
  have HOWN : Hid (w.ownsRow B 51 1 fv m xs) := hown
  have HNE : Hid (some rb ≠ fv.ownBlock) := own_ne hr hown
  have HM : Hid _ := hm
  have HBB : Hid _ := hB
  have HR : Hid _ := hr
  clear hown hm hB hr
  go_enter Ybaf.func18, Ybaf.ntmps18
  go_wp2_with fail
  go_region_law (first
    | (refine step_sprintf rfl (.tmp 14) (.tmp 15) rfl s1 s2 ob rfl rfl (by go_simp) (by go_simp) ?_; intro s)
    | (refine step_append_lies _ rfl (.tmp 12) (.tmp 19) 36 rfl B 51 i0 (.pointer none) 1 8 Ybaf.underlying36 hi hz0 hz1 hz2 rfl (by decide) fv m xs rfl (((HOWN.out.alloc _).alloc _).alloc _) ⟨w.heap.size + 1 + 1, 0, none⟩ 1 1 [.pointer (some ⟨w.heap.size + 1, 0, none⟩)] rfl rfl (fun j u hu => by obtain ⟨rfl, rfl⟩ := one_news hu; go_simp) (by simp [Value.oneCell']) (by decide) (by have := HM.out; unfold maxLen; omega) (by have := HM.out; omega) (by have := HBB.out; simp; omega) _ rfl ?_; intro g cap w1 hown1 hgrow hat hlt; obtain ⟨kc, kf⟩ := err_cell (g' := 0) (P := .cells #[.int .i64 l, .int .i64 c] 49) (E := .cells #[.string ⟨#[]⟩, .int .i64 l, .int .i64 c, .string s, .bool false] 53) (S := .cells #[.pointer (some ⟨w.heap.size + 1, 0, none⟩)] 51) hrb hcf hff HNE.out ⟨hgrow.os, hgrow.tape, hgrow.output, hgrow.size, hgrow.block⟩ rfl; clear hat hlt))
  all_goals (have HE : Hid (ErrPost rb B m l c fv xs cs w (w1.setCell ⟨rb, 1, none⟩ (.slice (some ⟨g, 0, none⟩) (m + 1) cap))) := err_end HR.out HOWN.out ⟨hgrow.os, hgrow.tape, hgrow.output, hgrow.size, hgrow.block⟩ hown1; clear hown1 hgrow)
  all_goals (go_wp2_with fail)
  all_goals (go_end0; exact ⟨rfl, HE.out⟩)

end Go.Proofs.YbulkbvicFmt
