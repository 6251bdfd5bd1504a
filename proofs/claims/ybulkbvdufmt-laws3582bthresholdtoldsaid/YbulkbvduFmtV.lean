/-
  Seat b3582aF: maps keyed by strings; processIndex.
-/
import Derived.Test.YbulkbvduFmtB
import Derived.Maps.OwnSet
import Derived.ChangeMaps
import Derived.MapKept
namespace Go.Proofs.YbulkbvduFmt
open Go.RowKit Go.Maps

theorem keys9 : Keyed Ybaf.prog 9 := string_keyed Ybaf.underlying9
theorem key9 (s : ByteArray) (h : s.size ≤ maxLen) : keyOf Ybaf.prog 9 (.string s) = some (.string s.data.toList) := WideMaps.keyOf_string_mk Ybaf.underlying9 h

/-- Keys that are strings of bounded length. -/
def StrKeys (es : Array MapEntry) : Prop := ∀ e ∈ es.toList, ∃ s : ByteArray, s.size ≤ maxLen ∧ e.key = .string s

theorem put_any (t et : TypeId) (ht : Ybaf.prog.underlying t = some (.map 9 et)) (W : World) (mb clock : Nat) (es : Array MapEntry) (h : W.heap[mb]? = some (.map es clock)) (hk : StrKeys es) (s : ByteArray) (hs : s.size ≤ maxLen) (v : Value) :
    ∃ (es' : Array MapEntry) (c' : Nat), (Instr.mapUpdate t (.map (some mb)) (.string s) v).run Ybaf.prog W = .ok () (ChangeMaps.setBlock W mb (.map es' c')) ∧ ∀ e ∈ es'.toList, e.key = .string s ∨ ∃ e0 ∈ es.toList, e.key = e0.key := by
  have hkey := key9 s hs
  rcases keys9.find W hkey es.toList (fun e he => by obtain ⟨q, hq, e1⟩ := hk e he; exact ⟨_, by rw [e1]; exact key9 q hq⟩) with ⟨f1, _⟩ | ⟨j, e0, f1, f2, f3⟩
  · refine ⟨es.push { key := .string s, val := v, born := clock }, clock + 1, ?_, fun e he => ?_⟩
    · simp [Instr.mapUpdate, run_underlying ht, keys9.check W _ hkey, f1, MapKept.run_getObj_map h, Result.andThen, go_sem]
      exact MapKept.run_setObj_map _ h
    · simp only [Array.toList_push, List.mem_append, List.mem_singleton] at he
      rcases he with he | rfl
      · exact .inr ⟨e, he, rfl⟩
      · exact .inl rfl
  · refine ⟨es.modify j fun e => { e with key := .string s, val := v }, clock, ?_, fun e he => ?_⟩
    · have hst := keys9.stays W hkey
      have f2' : es[j]? = some e0 := by simpa using f2
      simp [Instr.mapUpdate, run_underlying ht, keys9.check W _ hkey, f1, MapKept.run_getObj_map h, Result.andThen, go_sem, f2', f3, hst]
      exact MapKept.run_setObj_map _ h
    · obtain ⟨i, hi⟩ := List.getElem?_of_mem he
      rw [Array.getElem?_toList, Array.getElem?_modify] at hi
      by_cases e1 : j = i
      · rw [if_pos e1] at hi
        obtain ⟨e2, he2, rfl⟩ := Option.map_eq_some_iff.1 hi
        exact .inl rfl
      · rw [if_neg e1] at hi
        exact .inr ⟨e, List.mem_of_getElem? (by rw [Array.getElem?_toList]; exact hi), rfl⟩

theorem look_none (W : World) (mb clock : Nat) (es : Array MapEntry) (h : W.heap[mb]? = some (.map es clock)) (hk : StrKeys es) (s : ByteArray) (hs : s.size ≤ maxLen) (hne : ∀ e ∈ es.toList, e.key ≠ .string s) :
    (Instr.lookup 38 (.map (some mb)) (.string s) true).run Ybaf.prog W = .ok (.tuple #[.int .i64 0, .bool false]) W := by
  have hkey := key9 s hs
  have hz : (zeroValue 3).run Ybaf.prog W = .ok (.int .i64 0) W := by kernel_rfl
  rcases keys9.find W hkey es.toList (fun e he => by obtain ⟨q, hq, e1⟩ := hk e he; exact ⟨_, by rw [e1]; exact key9 q hq⟩) with ⟨f1, _⟩ | ⟨j, e0, f1, f2, f3⟩
  · simp [Instr.lookup, run_underlying Ybaf.underlying38, keys9.check W _ hkey, f1, MapKept.run_getObj_map h, Result.andThen, go_sem, hz]
  · exact absurd f3 (hne e0 (List.mem_of_getElem? f2))

/-- The names. -/
def nm (i : Nat) : ByteArray := ⟨#[UInt8.ofNat (97 + i)]⟩
theorem nm_size (i : Nat) : (nm i).size ≤ maxLen := by unfold maxLen; show 1 ≤ _; omega
theorem nm_inj2 : ∀ a b : Fin 12, nm a.val = nm b.val → a = b := by decide +kernel
theorem nm_ne : ∀ a : Fin 12, (nm a.val).toList.isEmpty = false := by decide +kernel
theorem nm_inj {i j : Nat} (hi : i < 12) (hj : j < 12) (h : nm i = nm j) : i = j := by
  have := nm_inj2 ⟨i, hi⟩ ⟨j, hj⟩ h
  simpa using this

set_option maxHeartbeats 4000000 in
set_option maxRecDepth 10000 in
theorem index_any (pb pc n : Nat) (hn : 1 ≤ n) (hn12 : n ≤ 12) (w : World) (hp : ∀ j, j < n → w.cell? ⟨pb, j, none⟩ = some (.string (nm j))) :
    Calls Ybaf.prog 7 #[.slice (some ⟨pb, 0, none⟩) n pc] w fun e w' => (∃ v, e = .returned (.tuple #[v, .nilIface])) ∧ Below w.heap.size w w' := by
  have hmm : ∀ (W : World) (k : Int), (Instr.makeMap 38 (some (.int .i64 k))).run Ybaf.prog W = .ok (.map (some W.heap.size)) (W.alloc (.map #[] 0)) := fun W k => by
    simp [Instr.makeMap, run_underlying Ybaf.underlying38, go_sem]
  have hn0 : ((n : Nat) : Int) ≠ 0 := by omega
  have hn0' : (((n : Nat) : Int) == 0) = false := by simp; omega
  have HP : Hid _ := hp
  clear hp
  go_enter Ybaf.func7, Ybaf.ntmps7
  go_wp2_with fail
  go_loopw [18] (fun c wr => ∃ i : Nat, i ≤ n ∧ c = .int .i64 (i : Nat) ∧ Hid (Below w.heap.size w wr) ∧ ∃ es clock, Hid (wr.heap[w.heap.size]? = some (.map es clock)) ∧ Hid (∀ e ∈ es.toList, ∃ j, j < i ∧ e.key = .string (nm j))) (fun c _ => n - (intOf c).toNat)
  case atStart => exact ⟨0, by omega, rfl, (Below.refl _ w).alloc (Nat.le_refl _) _, #[], 0, heap_alloc_new w _, fun e he => by simp at he⟩
  case round =>
    obtain ⟨i, hi, rfl, HB, es, clock, HM, HK⟩ := hrel
    by_cases hlt : i < n
    · have hce := cell_later HB.out (HP.out i hlt)
      have hil : ((i : Nat) : Int) < (n : Nat) := by omega
      obtain ⟨s, hs⟩ : ∃ s, s = nm i := ⟨_, rfl⟩
      have hss : s.size ≤ maxLen := by rw [hs]; exact nm_size i
      have hemp : s.toList.isEmpty = false := by rw [hs]; exact nm_ne ⟨i, by omega⟩
      have hk : StrKeys es := fun e he => by obtain ⟨j, _, e1⟩ := HK.out e he; exact ⟨nm j, nm_size j, e1⟩
      have hlk := look_none wr w.heap.size clock es HM.out hk s hss (fun e he h => by
        obtain ⟨j, hj, e1⟩ := HK.out e he
        rw [e1, hs] at h
        have : nm j = nm i := by simpa using h
        have := nm_inj (by omega) (by omega) this
        omega)
      obtain ⟨es', c', hpt, hes'⟩ := put_any 38 3 Ybaf.underlying38 wr w.heap.size clock es HM.out hk s hss (.int .i64 (i : Nat))
      rw [← hs] at hce
      have HS : Hid _ := hs
      have HE : Hid _ := hes'
      have HKK : Hid _ := hk
      clear hs hes' hk
      go_wp2_with fail
      refine ⟨⟨i + 1, by omega, by simp, ?_, es', c', ?_, fun e he => ?_⟩, by simp [intOf]; omega⟩
      · exact HB.out.trans ⟨rfl, rfl, rfl, by simp [ChangeMaps.setBlock], fun k hk => ChangeMaps.heap_setBlock_other HM.out _ (by omega)⟩
      · exact ChangeMaps.heap_setBlock_same HM.out _
      · rcases HE.out e he with h | ⟨e0, he0, h⟩
        · exact ⟨i, by omega, by rw [h, HS.out]⟩
        · obtain ⟨j, hj, e1⟩ := HK.out e0 he0
          exact ⟨j, by omega, by rw [h, e1]⟩
    · obtain rfl : i = n := by omega
      have hil : ¬ ((i : Nat) : Int) < (i : Nat) := by omega
      go_wp2_with fail
      go_ret2
      exact ⟨⟨_, rfl⟩, HB.out⟩

end Go.Proofs.YbulkbvduFmt
