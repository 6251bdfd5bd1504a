/-
  Seat b3582a: LawS3582CExact: what the walks are told of the two slices; the walk of a list that is too long.
-/
import Derived.Test.YbulkbvduWalks
import Derived.LoopTactic
namespace Go.Proofs.Ybulkbvdu
open Go.RowKit Go.Maps

/-- WHAT A WALK IS TOLD OF A SLICE OF TYPE t THAT CAME IN: where its elements lie, and what they hold. -/
structure Lies (w : World) (t : TypeId) (a : Option Addr) (len cap b off : Nat) (f : Nat → Value) : Prop where
  idx : ∀ (k : Nat) (W : World), k < len → (Instr.indexAt t (.slice a len cap) (.int .i64 (k : Int))).run Yba.prog W = .ok (.pointer (some ⟨b, off + k, none⟩)) W
  cell : ∀ k, k < len → w.cell? ⟨b, off + k, none⟩ = some (f k)

theorem heap_if (w : World) (o : Obj) (k : Nat) : (w.alloc o).heap[k]? = if k = w.heap.size then some o else w.heap[k]? := by
  show (w.heap.push o)[k]? = _
  rw [Array.getElem?_push]

theorem has_put {D : DataW Unit} (hD : IsMap D) {k k' : Lit} (hk : WideAt.IsKeyLit k) (d : DataW Unit) (h : has D k' = true) : has (D.put k d) k' = true := by
  by_cases e : k' = k
  · subst e; exact has_put_same hD hk d
  · rw [has_put_other e]; exact h

/-- THE LOOK-UPS OF THE LAW's KEYS, in whatever world and block that map lies: with 'ok' and without give one string. -/
theorem looks_same {n len : Nat} {es : Array MapEntry} {clock : Nat} {D : DataW Unit} {f : Nat → Int} (F : WideElems.Fit Yba.prog 3 (plainElem (H := Unit) Yba.prog 9) es clock) (hs : es.size ≤ n)
    (hD : D = .map ((es.toList.map (WideElems.rg Yba.prog 3 (plainElem (H := Unit) Yba.prog 9))).foldr DataW.insert [])) (wf : ∀ k, k < len → (Lit.int .i64 (f k)).wf = true) (hhas : ∀ j, j < len → has D (.int .i64 (f j)) = true) :
    ∃ g : Int → ByteArray, ∀ j, j < len → ∀ (W : World) (b : Nat), W.heap[b]? = some (.map es clock) → (Instr.lookup 24 (.map (some b)) (.int .i64 (f j)) true).run Yba.prog W = .ok (.tuple #[.string (g (f j)), .bool true]) W ∧
      (Instr.lookup 24 (.map (some b)) (.int .i64 (f j)) false).run Yba.prog W = .ok (.string (g (f j))) W := by
  have one : ∀ j, j < len → ∀ v ps, plainElem (H := Unit) Yba.prog 9 v = some (D.atKey (.int .i64 (f j)) (.lit (.string [])), ps) → v = .string ⟨(match D.atKey (.int .i64 (f j)) (.lit (.string [])) with | .lit (.string l) => l | _ => []).toArray⟩ := by
    intro j _ v ps hv
    obtain ⟨s, rfl, e, _⟩ := plainElem_string_inv Yba.underlying9 hv
    have e1 := congrArg Prod.fst e
    simp only at e1
    rw [e1]
  refine ⟨fun x => ⟨(match D.atKey (.int .i64 x) (.lit (.string [])) with | .lit (.string l) => l | _ => []).toArray⟩, fun j hj W b hW => ?_⟩
  have hown : W.ownsMap Yba.prog 3 (plainElem (H := Unit) Yba.prog 9) b n D := ⟨es, clock, hW, F, hs, hD⟩
  have hkey : keyOf Yba.prog 3 (.int .i64 (f j)) = some (.int .i64 (f j)) := keyOf_int_mk Yba.underlying3 (wf j hj)
  obtain ⟨v, ps, h1, h2⟩ := hown.look_ok law Yba.underlying24 (zero9 W) (plainElem_string Yba.underlying9 (Nat.zero_le _)) hkey
  obtain ⟨v', ps', h1', h2'⟩ := hown.lookup law Yba.underlying24 (zero9 W) (plainElem_string Yba.underlying9 (Nat.zero_le _)) hkey
  rw [hhas j hj] at h1
  rw [h1, h1', one j hj v ps h2, one j hj v' ps' h2']
  exact ⟨rfl, rfl⟩

set_option maxHeartbeats 1000000 in
set_option maxRecDepth 100000 in
theorem exact_long (a0 a1 a2 : Bool) (a3 : Int) (a4 : ByteArray) (a5 : Option Addr) (len5 cap5 : Nat) (a6 : Option Addr) (len6 cap6 : Nat) (a7 : Int) (w : World) (h : 1024 < len5) :
    Calls Yba.prog 3 #[.bool a0, .bool a1, .bool a2, .int .i64 a3, .string a4, .slice a5 len5 cap5, .slice a6 len6 cap6, .int .i64 a7] w fun e w' => e = .returned (.bool true) ∧ Below w.heap.size w w' := by
  have h' : (1024 : Int) < (len5 : Int) := by omega
  go_enter Yba.func3, Yba.ntmps3
  go_wp2
  go_ret
  exact ⟨rfl, Below.refl _ _⟩

end Go.Proofs.Ybulkbvdu
