/-
  Seat b3590aF: the walk of LawS3590ABuilt: what it appends.
-/
import Derived.Test.YbulkbvicFmtF
import Derived.Test.YbulkbvicFmtH
import Derived.ArgAppend
namespace Go.Proofs.YbulkbvicFmt
open Go.RowKit Go.Extern.Stop Go.Stop Go.Extern

/-- The row g of CAP cells begins with the bytes L. -/
def TLies (w : World) (g CAP : Nat) (L : List Int) : Prop := ∃ F : Nat → Int, w.rowIs g 5 CAP (fun i => .int .u8 (F i)) ∧ ∀ k, k < L.length → F k = L.getD k 0
theorem TLies.alloc {w : World} {g CAP : Nat} {L : List Int} (h : TLies w g CAP L) (o : Obj) : TLies (w.alloc o) g CAP L := by
  obtain ⟨F, h1, h2⟩ := h
  exact ⟨F, h1.alloc o, h2⟩
theorem TLies.put {w : World} {g CAP : Nat} {L : List Int} (h : TLies w g CAP L) (c : Int) : TLies (w.setCell ⟨g, L.length, none⟩ (.int .u8 c)) g CAP (L ++ [c]) := by
  obtain ⟨F, h1, h2⟩ := h
  refine ⟨_, row_next h1, fun k hk => ?_⟩
  simp only [List.length_append, List.length_singleton] at hk
  by_cases e : k = L.length
  · subst e; have := getD_right (A := L) (B := [c]) 0; simp at this; simp
  · have hk2 : k < L.length := by omega
    simp only [e, if_false]
    rw [h2 k hk2, getD_left hk2]
theorem TLies.txt {w : World} {g CAP : Nat} {L : List Int} (h : TLies w g CAP L) (hc : L.length ≤ CAP) : Txt w (some ⟨g, 0, none⟩) L.length (fun k => L.getD k 0) := by
  obtain ⟨F, h1, h2⟩ := h
  exact .inr ⟨g, 0, rfl, h1.lt, fun k hk => by rw [Nat.zero_add, h1.cell (Nat.lt_of_lt_of_le hk hc), h2 k hk]⟩
theorem TLies.made (w : World) (n : Nat) : TLies (w.alloc (.cells (madeCells #[.int .u8 0] n) 5)) w.heap.size n [] :=
  ⟨fun _ => 0, World.rowIs_made w (.int .u8 0) n 5, fun k hk => absurd hk (Nat.not_lt_zero k)⟩

/-- An append of one byte, where there is room. -/
theorem run_app (w : World) (g CAP : Nat) (L : List Int) (c : Int) (b : Nat) (ht : TLies w g CAP L) (hroom : L.length + 1 ≤ CAP) (hc : w.cell? ⟨b, 0, none⟩ = some (.int .u8 c)) (ty : TypeId) :
    (Builtin.append_ #[22, 22] ty #[.slice (some ⟨g, 0, none⟩) L.length CAP, .slice (some ⟨b, 0, none⟩) 1 1]).run Ybaf.prog w = .ok (.slice (some ⟨g, 0, none⟩) (L.length + 1) CAP) (w.setCell ⟨g, L.length, none⟩ (.int .u8 c)) := by
  obtain ⟨i, hi, hzz⟩ := Option.map_eq_some_iff.1 Ybaf.info5
  simp only [Prod.mk.injEq] at hzz
  obtain ⟨hz, hs, hby⟩ := hzz
  obtain ⟨F, h1, h2⟩ := ht
  have hr := run_append_room_cells (P := Ybaf.prog) w 22 ty 5 i Ybaf.underlying22 hi g 0 L.length CAP ⟨b, 0, none⟩ 1 1 [.int .u8 c] (by simp [hs])
    (fun j u hj => by
      have : j = 0 := by have := (List.getElem?_eq_some_iff.1 hj).1; simp at this; omega
      subst this
      simp at hj; subst hj
      simpa [Addr.add] using hc)
    (by simp [Value.oneCell']) hroom
    (fun j hj => by
      simp at hj; subst hj
      simp only [hs, Nat.mul_one, Nat.zero_add, Nat.add_zero]
      rw [h1.cell (by omega)]; rfl)
    (fun j hj => by
      simp at hj; subst hj
      simp only [hs, Nat.mul_one, Nat.zero_add, Nat.add_zero]
      exact h1.frozen _)
  rw [hr]
  simp [hs, World.setCells]

/-- .. as a law for the walk. -/
theorem wpList_app {w : World} {ops : Array Oper} {rest : List Oper} {o : Oper} {a : Act} {Q : Exit → Act → World → Prop} (hgd : o.guard = none) (s x : Operand)
    (ho : o.op = .call { callee := .builtin .append, args := #[s, x], argTypes := #[22, 22] })
    (g CAP : Nat) (L : List Int) (c : Int) (b : Nat) (hs : a.eval s = .slice (some ⟨g, 0, none⟩) L.length CAP) (hx : a.eval x = .slice (some ⟨b, 0, none⟩) 1 1)
    (hc : w.cell? ⟨b, 0, none⟩ = some (.int .u8 c)) (ht : TLies w g CAP L) (hroom : L.length + 1 ≤ CAP) (B : Nat) (w0 : World) (hb : Below B w0 w) (hB : B ≤ g)
    (hK : ∀ w', Hid (TLies w' g CAP (L ++ [c])) → Hid (Below B w0 w') → wpList Ybaf.prog ops Q rest (a.put o.dst (.slice (some ⟨g, 0, none⟩) (L ++ [c]).length CAP)) w') : wpList Ybaf.prog ops Q (o :: rest) a w := by
  refine wpList_plain hgd fun K hK' => ?_
  have hrun := run_app w g CAP L c b ht hroom hc o.type
  unfold Oper.wp
  simp [execOp, ho, resolve, invoke, builtin, hs, hx, hrun, Result.andThen]
  have := hK _ (show TLies _ _ _ _ from ht.put c) (show Below _ _ _ from hb.setCell (p := ⟨g, L.length, none⟩) hB _)
  simp only [List.length_append, List.length_singleton] at this
  exact hK' _ _ this

theorem make0 (n : Nat) (hn : n ≤ 100000) (i : Int) (hi : i = (n : Int)) (W : World) : (Instr.makeSlice 22 (.int .i64 0) (.int .i64 i)).run Ybaf.prog W = .ok (.slice (some ⟨W.heap.size, 0, none⟩) 0 n) (W.alloc (.cells (madeCells #[.int .u8 0] n) 5)) := by
  subst hi
  obtain ⟨ti, ht, hzz⟩ := Option.map_eq_some_iff.1 Ybaf.info5
  simp only [Prod.mk.injEq] at hzz
  obtain ⟨hz, hs, hby⟩ := hzz
  have hr := run_make (P := Ybaf.prog) W 22 5 ti (.int .u8 0) Ybaf.underlying22 ht hz .i64 .i64 0 n (Int.le_refl _) (by omega) (by rw [hby]; omega) (by omega)
  have hcs : (Value.int .u8 0).cells = #[.int .u8 0] := rfl
  simpa [hs, hcs] using hr

end Go.Proofs.YbulkbvicFmt
