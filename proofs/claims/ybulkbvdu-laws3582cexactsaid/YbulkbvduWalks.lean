/-
  Seat b3582a: THE WALKS that both statements share: maps.Clone at map[int]string, the method Send.
-/
import Derived.Test.YbulkbvduProg
import Derived.WalkKit
import Derived.WalkSpells
import Derived.WalkLawsBesides
import Derived.Maps.OwnSet
import Derived.Maps.StringElems
import Derived.Laws.Externs
import Derived.Laws.ResultCell
import Derived.MapKept
import Derived.Outline
namespace Go.Proofs.Ybulkbvdu
open Go.RowKit Go.Maps

theorem law : Keyed Yba.prog 3 := int_keyed Yba.underlying3
theorem zero9 (w : World) : (zeroValue 9).run Yba.prog w = .ok (.string ByteArray.empty) w := by kernel_rfl

section
variable {P : Program} (w : World)
theorem run_assertMap (t xT k e : TypeId) (v : Value) (h : P.underlying t = some (.map k e)) : (Instr.typeAssert (.iface t v) xT t false).run P w = .ok v w := by
  simp [Instr.typeAssert, run_underlying h, go_sem, Result.andThen]
theorem run_cloneMap {r : Nat} {es : Array MapEntry} {clock : Nat} (t : TypeId) (hb : w.heap[r]? = some (.map es clock)) :
    (Extern.MapsClone.clone #[.iface t (.map (some r))]).run P w = .ok (.iface t (.map (some w.heap.size))) (w.alloc (.map es clock)) := by
  obtain ⟨s, e⟩ : ∃ s, Extern.MapsClone.clone #[.iface t (.map (some r))] = (getObj r >>= fun o => match o with
      | .map entries clock => (newObj (.map entries clock) >>= fun n => pure (.iface t (.map (some n))))
      | _ => stuck s) := ⟨_, rfl⟩
  rw [e]
  simp [MapKept.run_getObj_map hb, Result.andThen, go_sem]
end

set_option maxHeartbeats 1000000 in
theorem clone_any (b : Nat) (es : Array MapEntry) (clock : Nat) (w : World) (hb : w.heap[b]? = some (.map es clock)) :
    Calls Yba.prog 6 #[.map (some b)] w fun e w' => e = .returned (.map (some w.heap.size)) ∧ w' = w.alloc (.map es clock) := by
  have hq := fun w => run_eql_map_nil (P := Yba.prog) w 24 _ _ (some b) Yba.underlying24
  go_enter Yba.func6, Yba.ntmps6
  go_wp2
  rw [run_callFunc_extern Yba.func7 (by kernel_rfl) (by kernel_rfl) (by kernel_rfl) (e := Extern.MapsClone.clone) (by kernel_rfl), run_cloneMap w 24 hb]
  simp only [Result.andThen]
  rw [Oper.upon_value]
  go_wp2
  rw [run_assertMap _ 24 20 _ _ _ Yba.underlying24]
  simp only [Result.andThen]
  rw [Oper.upon_value]
  go_wp2
  go_ret
  exact ⟨rfl, rfl⟩

set_option maxHeartbeats 1000000 in
theorem clone_nil (w : World) :
    Calls Yba.prog 6 #[.map none] w fun e w' => e = .returned (.map none) ∧ w' = w := by
  have hq := fun w => run_eql_map_nil (P := Yba.prog) w 24 _ _ none Yba.underlying24
  go_enter Yba.func6, Yba.ntmps6
  go_wp2
  go_ret
  exact ⟨rfl, rfl⟩

/-! ### the method Send: the receiver's cells 2 (isMember), 3 (learned), 7 (round), 8 (decision), 9 (stopped) of block pb -/
abbrev msg0 : Obj := .cells #[.map none, .bool false, .string ⟨#[]⟩] 34

set_option maxHeartbeats 1000000 in
theorem send_not (pb : Nat) (r : Int) (w : World) (hpb : pb < w.heap.size) (h2 : w.cell? ⟨pb, 2, none⟩ = some (.bool false)) :
    Calls Yba.prog 5 #[.pointer (some ⟨pb, 0, none⟩), .int .i64 r] w fun e w' => e = .returned (.tuple #[.agg #[.map none, .bool false, .string ⟨#[]⟩], .bool false]) ∧ w' = w.alloc msg0 := by
  go_enter Yba.func5, Yba.ntmps5
  go_wp2
  exact bodyPost_ret (v := .tuple #[.agg #[.map none, .bool false, .string ⟨#[]⟩], .bool false]) (by simp [results, Yba.results5, go_sem]) rfl ⟨rfl, rfl⟩

set_option maxHeartbeats 1000000 in
theorem send_stop (pb : Nat) (r : Int) (w : World) (hpb : pb < w.heap.size) (h2 : w.cell? ⟨pb, 2, none⟩ = some (.bool true)) (h9 : w.cell? ⟨pb, 9, none⟩ = some (.bool true)) :
    Calls Yba.prog 5 #[.pointer (some ⟨pb, 0, none⟩), .int .i64 r] w fun e w' => e = .returned (.tuple #[.agg #[.map none, .bool false, .string ⟨#[]⟩], .bool false]) ∧ w' = w.alloc msg0 := by
  go_enter Yba.func5, Yba.ntmps5
  go_wp2
  exact bodyPost_ret (v := .tuple #[.agg #[.map none, .bool false, .string ⟨#[]⟩], .bool false]) (by simp [results, Yba.results5, go_sem]) rfl ⟨rfl, rfl⟩

set_option maxHeartbeats 1000000 in
theorem send_dec (pb : Nat) (r q : Int) (d : ByteArray) (w : World) (hpb : pb < w.heap.size) (hq : 0 < q) (h2 : w.cell? ⟨pb, 2, none⟩ = some (.bool true)) (h9 : w.cell? ⟨pb, 9, none⟩ = some (.bool false))
    (h7 : w.cell? ⟨pb, 7, none⟩ = some (.int .i64 q)) (h8 : w.cell? ⟨pb, 8, none⟩ = some (.string d)) (f9 : w.frozen? ⟨pb, 9, none⟩ = false) :
    Calls Yba.prog 5 #[.pointer (some ⟨pb, 0, none⟩), .int .i64 r] w fun e w' => e = .returned (.tuple #[.agg #[.map none, .bool true, .string d], .bool true]) ∧ w' = (w.setCell ⟨pb, 9, none⟩ (.bool true)).alloc (.cells #[.map none, .bool true, .string d] 34) := by
  go_enter Yba.func5, Yba.ntmps5
  go_wp2
  exact bodyPost_ret (v := .tuple #[.agg #[.map none, .bool true, .string d], .bool true]) (by simp [results, Yba.results5, go_sem]) rfl ⟨rfl, rfl⟩

set_option maxHeartbeats 1000000 in
theorem send_map (pb : Nat) (r q : Int) (b : Nat) (es : Array MapEntry) (clock : Nat) (w : World) (hpb : pb < w.heap.size) (hq : ¬ 0 < q) (h2 : w.cell? ⟨pb, 2, none⟩ = some (.bool true)) (h9 : w.cell? ⟨pb, 9, none⟩ = some (.bool false))
    (h7 : w.cell? ⟨pb, 7, none⟩ = some (.int .i64 q)) (h3 : w.cell? ⟨pb, 3, none⟩ = some (.map (some b))) (hb : w.heap[b]? = some (.map es clock)) :
    Calls Yba.prog 5 #[.pointer (some ⟨pb, 0, none⟩), .int .i64 r] w fun e w' => e = .returned (.tuple #[.agg #[.map (some (w.heap.size + 1)), .bool false, .string ⟨#[]⟩], .bool true]) ∧ w' = (w.alloc (.cells #[.map (some (w.heap.size + 1)), .bool false, .string ⟨#[]⟩] 34)).alloc (.map es clock) := by
  have hbl : b < w.heap.size := (Array.getElem?_eq_some_iff.1 hb).1
  have hbx : ∀ o, (w.alloc o).heap[b]? = some (.map es clock) := fun o => (Below.heap_alloc _ _ b hbl).trans hb
  clear hb
  go_enter Yba.func5, Yba.ntmps5
  go_wp2_with (go_at_call 6; refine (clone_any b es clock _ (hbx _)).mono ?_; rintro e w' ⟨rfl, rfl⟩)
  exact bodyPost_ret (v := .tuple #[.agg #[.map (some (w.heap.size + 1)), .bool false, .string ⟨#[]⟩], .bool true]) (by simp [results, Yba.results5, go_sem]) rfl ⟨rfl, rfl⟩

set_option maxHeartbeats 1000000 in
theorem send_nil (pb : Nat) (r q : Int) (w : World) (hpb : pb < w.heap.size) (hq : ¬ 0 < q) (h2 : w.cell? ⟨pb, 2, none⟩ = some (.bool true)) (h9 : w.cell? ⟨pb, 9, none⟩ = some (.bool false))
    (h7 : w.cell? ⟨pb, 7, none⟩ = some (.int .i64 q)) (h3 : w.cell? ⟨pb, 3, none⟩ = some (.map none)) :
    Calls Yba.prog 5 #[.pointer (some ⟨pb, 0, none⟩), .int .i64 r] w fun e w' => e = .returned (.tuple #[.agg #[.map none, .bool false, .string ⟨#[]⟩], .bool true]) ∧ w' = w.alloc msg0 := by
  go_enter Yba.func5, Yba.ntmps5
  go_wp2_with (go_at_call 6; refine (clone_nil _).mono ?_; rintro e w' ⟨rfl, rfl⟩)
  exact bodyPost_ret (v := .tuple #[.agg #[.map none, .bool false, .string ⟨#[]⟩], .bool true]) (by simp [results, Yba.results5, go_sem]) rfl ⟨rfl, rfl⟩

end Go.Proofs.Ybulkbvdu
