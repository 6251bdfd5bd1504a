/-
  Seat b3582a: LawS3582CExact: the walks where the map is nil.
-/
import Derived.Test.YbulkbvduExactA
namespace Go.Proofs.Ybulkbvdu
open Go.RowKit Go.Maps

set_option maxHeartbeats 2000000 in
set_option maxRecDepth 100000 in
theorem nil_not (a1 : Bool) (a3 : Int) (a4 : ByteArray) (a5 : Option Addr) (len5 cap5 : Nat) (a6 : Option Addr) (len6 cap6 : Nat) (a7 : Int) (w : World) (h : len5 ≤ 1024) :
    Calls Yba.prog 3 #[.bool false, .bool a1, .bool true, .int .i64 a3, .string a4, .slice a5 len5 cap5, .slice a6 len6 cap6, .int .i64 a7] w fun e w' => e = .returned (.bool true) ∧ Below w.heap.size w w' := by
  have h' : ¬ (1024 : Int) < (len5 : Int) := by omega
  have hqn := fun w r => run_eql_map_nil (P := Yba.prog) w 24 _ _ r Yba.underlying24
  have hln := fun w ty => Maps.len_nil (P := Yba.prog) (w := w) Yba.underlying24 ty
  go_enter Yba.func3, Yba.ntmps3
  go_wp2_with fail
  refine (send_not _ _ _ (by simp) (by simp)).mono ?_
  rintro e w' ⟨rfl, rfl⟩
  go_wp2_with fail
  go_ret
  exact ⟨rfl, ((((Below.refl _ w).alloc (Nat.le_refl _) _).alloc (by simp) _).alloc (by simp; omega) _)⟩

set_option maxHeartbeats 2000000 in
set_option maxRecDepth 100000 in
theorem nil_stop (a3 : Int) (a4 : ByteArray) (a5 : Option Addr) (len5 cap5 : Nat) (a6 : Option Addr) (len6 cap6 : Nat) (a7 : Int) (w : World) (h : len5 ≤ 1024) :
    Calls Yba.prog 3 #[.bool true, .bool true, .bool true, .int .i64 a3, .string a4, .slice a5 len5 cap5, .slice a6 len6 cap6, .int .i64 a7] w fun e w' => e = .returned (.bool true) ∧ Below w.heap.size w w' := by
  have h' : ¬ (1024 : Int) < (len5 : Int) := by omega
  have hqn := fun w r => run_eql_map_nil (P := Yba.prog) w 24 _ _ r Yba.underlying24
  have hln := fun w ty => Maps.len_nil (P := Yba.prog) (w := w) Yba.underlying24 ty
  go_enter Yba.func3, Yba.ntmps3
  go_wp2_with fail
  refine (send_stop _ _ _ (by simp) (by simp) (by simp)).mono ?_
  rintro e w' ⟨rfl, rfl⟩
  go_wp2_with fail
  go_ret
  exact ⟨rfl, ((((Below.refl _ w).alloc (Nat.le_refl _) _).alloc (by simp) _).alloc (by simp; omega) _)⟩

set_option maxHeartbeats 2000000 in
set_option maxRecDepth 100000 in
theorem nil_dec (a3 : Int) (a4 : ByteArray) (a5 : Option Addr) (len5 cap5 : Nat) (a6 : Option Addr) (len6 cap6 : Nat) (a7 : Int) (w : World) (h : len5 ≤ 1024) (h3 : 0 < a3) :
    Calls Yba.prog 3 #[.bool true, .bool false, .bool true, .int .i64 a3, .string a4, .slice a5 len5 cap5, .slice a6 len6 cap6, .int .i64 a7] w fun e w' => e = .returned (.bool true) ∧ Below w.heap.size w w' := by
  have h' : ¬ (1024 : Int) < (len5 : Int) := by omega
  have hqn := fun w r => run_eql_map_nil (P := Yba.prog) w 24 _ _ r Yba.underlying24
  have hln := fun w ty => Maps.len_nil (P := Yba.prog) (w := w) Yba.underlying24 ty
  go_enter Yba.func3, Yba.ntmps3
  go_wp2_with fail
  refine (send_dec _ _ a3 a4 _ (by simp) h3 (by simp) (by simp) (by simp) (by simp) (by simp)).mono ?_
  rintro e w' ⟨rfl, rfl⟩
  go_wp2_with fail
  go_ret
  exact ⟨rfl, ((((Below.refl _ w).alloc (Nat.le_refl _) _).alloc (by simp) _).alloc (by simp; omega) _)⟩

set_option maxHeartbeats 2000000 in
set_option maxRecDepth 100000 in
theorem nil_und (a3 : Int) (a4 : ByteArray) (a5 : Option Addr) (len5 cap5 : Nat) (a6 : Option Addr) (len6 cap6 : Nat) (a7 : Int) (w : World) (h : len5 ≤ 1024) (h3 : ¬ 0 < a3) :
    Calls Yba.prog 3 #[.bool true, .bool false, .bool true, .int .i64 a3, .string a4, .slice a5 len5 cap5, .slice a6 len6 cap6, .int .i64 a7] w fun e w' => e = .returned (.bool true) ∧ Below w.heap.size w w' := by
  have h' : ¬ (1024 : Int) < (len5 : Int) := by omega
  have hqn := fun w r => run_eql_map_nil (P := Yba.prog) w 24 _ _ r Yba.underlying24
  have hln := fun w ty => Maps.len_nil (P := Yba.prog) (w := w) Yba.underlying24 ty
  go_enter Yba.func3, Yba.ntmps3
  go_wp2_with fail
  refine (send_nil _ _ a3 _ (by simp) (by omega) (by simp) (by simp) (by simp) (by simp)).mono ?_
  rintro e w' ⟨rfl, rfl⟩
  go_wp2_with fail
  go_ret
  exact ⟨rfl, ((((Below.refl _ w).alloc (Nat.le_refl _) _).alloc (by simp) _).alloc (by simp; omega) _)⟩

end Go.Proofs.Ybulkbvdu
