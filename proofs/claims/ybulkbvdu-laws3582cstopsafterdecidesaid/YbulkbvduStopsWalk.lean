/-
  Seat b3582a: THE WALK of LawS3582CStopsAfterDecide.
-/
import Derived.Test.YbulkbvduWalks
namespace Go.Proofs.Ybulkbvdu
open Go.RowKit Go.Maps

set_option maxHeartbeats 1000000 in
theorem stops_dec (a0 : Int) (a1 : ByteArray) (a2 a3 a4 : Int) (a5 : ByteArray) (w4 : (Lit.int .i64 a4).wf = true) (w5 : a5.size ≤ maxLen) (w : World) (h : 0 < a0) :
    Calls Yba.prog 4 #[.int .i64 a0, .string a1, .int .i64 a2, .int .i64 a3, .int .i64 a4, .string a5] w fun e w' => e = .returned (.bool true) ∧ Below w.heap.size w w' := by
  have hmm := @run_makeMap Yba.prog
  have hq := fun w => run_eql_map_nil (P := Yba.prog) w 24 _ _ none Yba.underlying24
  obtain ⟨w1, hrun, hown, hturn⟩ := (World.ownsMap_made w Yba.prog 3 (plainElem (H := Unit) Yba.prog 9)).store law Yba.underlying24 (by decide) (keyOf_int_mk Yba.underlying3 w4) (plainElem_string Yba.underlying9 w5)
  have bel : Below w.heap.size w w1 := ((Below.refl _ w).alloc (Nat.le_refl _) _).grown hturn.grown (by simp) (fun k hk => by cases hk; exact Nat.le_refl _)
  have hsz : w1.heap.size = w.heap.size + 1 := by
    obtain ⟨es, clock, es', clock', hb, rfl⟩ := hturn
    simp [ChangeMaps.setBlock]
  have HB : Hid (Below w.heap.size w w1) := bel
  have HS : Hid (w1.heap.size = w.heap.size + 1) := hsz
  clear hown hturn bel hsz
  go_enter Yba.func4, Yba.ntmps4
  go_wp2_with fail
  refine (send_dec _ _ a0 a1 _ (by simp) h (by simp) (by simp) (by simp) (by simp) (by simp)).mono ?_
  rintro e w' ⟨rfl, rfl⟩
  go_wp2_with fail
  refine (send_stop _ _ _ (by simp; omega) (by go_simp) (by go_simp)).mono ?_
  rintro e w' ⟨rfl, rfl⟩
  go_wp2_with fail
  go_ret
  exact ⟨rfl, (((((HB.out.alloc HB.out.size _).alloc (by have := HS.out; simp; omega) _).alloc (by have := HS.out; simp; omega) _).alloc (by have := HS.out; simp; omega) _).alloc (by have := HS.out; simp; omega) _)⟩

theorem heap_if (w : World) (o : Obj) (k : Nat) : (w.alloc o).heap[k]? = if k = w.heap.size then some o else w.heap[k]? := by
  show (w.heap.push o)[k]? = _
  rw [Array.getElem?_push]

/-- What a map of the one entry (a4, a5) gives at a4. -/
theorem one_entry {W : World} {b : Nat} {a4 : Int} {a5 : ByteArray} (w4 : (Lit.int .i64 a4).wf = true)
    (hown : W.ownsMap Yba.prog 3 (plainElem (H := Unit) Yba.prog 9) b 1 ((DataW.map []).put (.int .i64 a4) (.lit (.string a5.data.toList)))) :
    (Instr.lookup 24 (.map (some b)) (.int .i64 a4) true).run Yba.prog W = .ok (.tuple #[.string a5, .bool true]) W ∧
    (∀ ty, (Builtin.len_ #[24] ty #[.map (some b)]).run Yba.prog W = .ok (.int .i64 1) W) := by
  have hk : WideAt.IsKeyLit (.int .i64 a4) := law.key (keyOf_int_mk Yba.underlying3 w4)
  refine ⟨?_, fun ty => ?_⟩
  · obtain ⟨v, ps, h1, h2⟩ := hown.look_ok law Yba.underlying24 (zero9 W) (plainElem_string Yba.underlying9 (Nat.zero_le _)) (keyOf_int_mk Yba.underlying3 w4)
    rw [has_put_same isMap_empty hk] at h1
    rw [atKey_put_same isMap_empty hk] at h2
    obtain ⟨s, rfl, hs, _⟩ := plainElem_string_inv Yba.underlying9 h2
    have e : a5 = s := by
      have e1 : a5.data.toList = s.data.toList := by simpa using (congrArg Prod.fst hs)
      exact ByteArray.ext (Array.toList_inj.1 e1)
    rw [h1, e]
  · rw [hown.len Yba.underlying24 ty, size_put tidy_empty]
    rfl

set_option maxHeartbeats 1000000 in
theorem stops_und (a0 : Int) (a1 : ByteArray) (a2 a3 a4 : Int) (a5 : ByteArray) (w4 : (Lit.int .i64 a4).wf = true) (w5 : a5.size ≤ maxLen) (w : World) (h : ¬ 0 < a0) :
    Calls Yba.prog 4 #[.int .i64 a0, .string a1, .int .i64 a2, .int .i64 a3, .int .i64 a4, .string a5] w fun e w' => e = .returned (.bool true) ∧ Below w.heap.size w w' := by
  have hmm := @run_makeMap Yba.prog
  have hq := fun w => run_eql_map_nil (P := Yba.prog) w 24 _ _ none Yba.underlying24
  obtain ⟨w1, hrun, hown, hturn⟩ := (World.ownsMap_made w Yba.prog 3 (plainElem (H := Unit) Yba.prog 9)).store law Yba.underlying24 (by decide) (keyOf_int_mk Yba.underlying3 w4) (plainElem_string Yba.underlying9 w5)
  have bel : Below w.heap.size w w1 := ((Below.refl _ w).alloc (Nat.le_refl _) _).grown hturn.grown (by simp) (fun k hk => by cases hk; exact Nat.le_refl _)
  have hsz : w1.heap.size = w.heap.size + 1 := by
    obtain ⟨es, clock, es', clock', hb, rfl⟩ := hturn
    simp [ChangeMaps.setBlock]
  obtain ⟨es, clock, hb, F, hs, hD⟩ := hown
  have HB : Hid (Below w.heap.size w w1) := bel
  have HS : Hid (w1.heap.size = w.heap.size + 1) := hsz
  have HM : Hid (w1.heap[w.heap.size]? = some (.map es clock)) := hb
  have HL : Hid (∀ (W : World) (b : Nat), W.heap[b]? = some (.map es clock) → (Instr.lookup 24 (.map (some b)) (.int .i64 a4) true).run Yba.prog W = .ok (.tuple #[.string a5, .bool true]) W ∧ (∀ ty, (Builtin.len_ #[24] ty #[.map (some b)]).run Yba.prog W = .ok (.int .i64 1) W)) :=
    fun W b hW => one_entry w4 ⟨es, clock, hW, F, hs, hD⟩
  clear hturn bel hsz hb F hs hD
  go_enter Yba.func4, Yba.ntmps4
  go_wp2_with fail
  have hz := HS.out
  refine (send_map _ _ a0 w.heap.size es clock _ (by simp) (by omega) (by simp) (by simp) (by simp) (by simp) (by rw [heap_if, if_neg (by omega)]; exact HM.out)).mono ?_
  clear hz
  rintro e w' ⟨rfl, rfl⟩
  go_wp2_with fail
  refine (send_map _ _ a0 w.heap.size es clock _ ?h1 (by omega) ?h2 ?h3 ?h4 ?h5 ?h6).mono ?_
  case h1 => simp; omega
  case h2 => go_simp
  case h3 => go_simp
  case h4 => go_simp
  case h5 => go_simp
  case h6 =>
    have hz := HS.out
    simp only [heap_if, World.size_alloc]
    rw [if_neg (by omega), if_neg (by omega), if_neg (by omega), if_neg (by omega)]
    exact HM.out
  rintro e w' ⟨rfl, rfl⟩
  go_wp2_with fail
  rw [(HL.out _ _ ?_).1]
  rotate_left
  · simp only [heap_if, World.size_alloc]
    simp
  simp only [Result.andThen]
  rw [Oper.upon_value]
  go_wp2_with fail
  rw [(HL.out _ _ ?_).1]
  rotate_left
  · simp only [heap_if, World.size_alloc]
    simp
  simp only [Result.andThen]
  rw [Oper.upon_value]
  go_wp2_with fail
  rw [(HL.out _ _ ?_).2]
  rotate_left
  · simp only [heap_if, World.size_alloc]
    simp
  simp only [Result.andThen]
  rw [Oper.upon_value]
  go_wp2_with fail
  rw [(HL.out _ _ ?_).2]
  rotate_left
  · simp only [heap_if, World.size_alloc]
    simp
  simp only [Result.andThen]
  rw [Oper.upon_value]
  go_wp2_with fail
  go_ret
  have hz := HS.out
  exact ⟨rfl, (((((((HB.out.alloc HB.out.size _).alloc (by simp; omega) _).alloc (by simp; omega) _).alloc (by simp; omega) _).alloc (by simp; omega) _).alloc (by simp; omega) _).alloc (by simp; omega) _)⟩

end Go.Proofs.Ybulkbvdu
