/-
  Seat b3590aF: the map of positions by its names: laws for the walk.
-/
import Derived.Test.YbulkbvicFmtL
import Derived.Maps.Own
import Derived.Maps.OwnOps
import Derived.Maps.OwnSet
import Derived.Maps.Keyed
import Derived.Maps.Views
import Derived.StringKeys
namespace Go.Proofs.YbulkbvicFmt
open Go.RowKit Go.Extern.Stop Go.Stop Go.Extern Go.Maps
open Go.WideMaps (keyOf_string_mk)

/-- A position as a datum. -/
def posD (l c : Int) : DataW Unit := .agg [.lit (.int .i64 l), .lit (.int .i64 c)]
/-- How an element of type Pos reads. -/
def posElem : Value → Option (DataW Unit × List MemPlace)
  | .agg cs => match cs.toList with
    | [.int .i64 l, .int .i64 c] => some (posD l c, [])
    | _ => none
  | _ => none
theorem posElem_mk (l c : Int) : posElem (posV l c) = some (posD l c, []) := rfl
theorem posElem_inv {v : Value} {l c : Int} {ps : List MemPlace} (h : posElem v = some (posD l c, ps)) : v = posV l c := by
  unfold posElem at h
  split at h
  · rename_i cs
    split at h
    · rename_i l' c' hcs
      simp [posD] at h
      obtain ⟨⟨rfl, rfl⟩, _⟩ := h
      have : cs = #[.int .i64 l', .int .i64 c'] := by
        cases cs; simp_all
      rw [this]
    · cases h
  · cases h

theorem law9 : Keyed Ybaf.prog 9 := string_keyed Ybaf.underlying9
theorem zero49 (w : World) : (zeroValue 49).run Ybaf.prog w = .ok (posV 0 0) w := by kernel_rfl

/-- 'v, ok := m[k]' at a map of positions. -/
theorem wpList_lookup_pos {w : World} {ops : Array Oper} {rest : List Oper} {o : Oper} {a : Act} {Q : Exit → Act → World → Prop} (hg : o.guard = none) (m x : Operand) (hop : o.op = Op.lookup 40 m x true)
    (b n : Nat) (D : DataW Unit) (hm : a.eval m = .map (some b)) (hown : w.ownsMap Ybaf.prog 9 posElem b n D) (s : ByteArray) (hx : a.eval x = .string s) (hs : s.size ≤ maxLen)
    (l c : Int) (hat : D.atKey (.string s.data.toList) (posD 0 0) = posD l c) (t : Bool) (ht : Maps.has D (.string s.data.toList) = t)
    (hK : wpList Ybaf.prog ops Q rest (a.put o.dst (.tuple #[posV l c, .bool t])) w) : wpList Ybaf.prog ops Q (o :: rest) a w := by
  refine wpList_lookup_own_ok w hg m x 40 hop 9 49 law9 Ybaf.underlying40 posElem (zero49 w) (posD 0 0) [] rfl b n D hm hown (.string s) (.string s.data.toList) hx (keyOf_string_mk Ybaf.underlying9 hs) (fun v ps hv => ?_)
  rw [hat] at hv
  obtain rfl := posElem_inv hv
  rw [ht]
  exact hK

theorem own_below {w w' : World} {B : Nat} {e : TypeId} {size : Nat} {v : Value} {n : Nat} {xs : List Value} (hb : Below w.heap.size w w') (h : w.ownsRow B e size v n xs) : w'.ownsRow B e size v n xs := by
  refine ⟨h.1, ?_⟩
  rcases h.2 with h2 | ⟨g, cap, cur, h1, h2, h3, h4⟩
  · exact .inl h2
  · exact .inr ⟨g, cap, cur, h1, h2, (hb.block g (Array.getElem?_eq_some_iff.1 h3).1).trans h3, h4⟩
theorem map_below {w w' : World} {b n : Nat} {D : DataW Unit} (hb : Below w.heap.size w w') (h : w.ownsMap Ybaf.prog 9 posElem b n D) : w'.ownsMap Ybaf.prog 9 posElem b n D := by
  obtain ⟨es, clock, h1, h2⟩ := h
  exact ⟨es, clock, (hb.block b (Array.getElem?_eq_some_iff.1 h1).1).trans h1, h2⟩

set_option maxHeartbeats 4000000 in
set_option maxRecDepth 100000 in
/-- declareOnce at a name that is not there. -/
theorem declare_new (rb mb n : Nat) (D : DataW Unit) (name wh : ByteArray) (l c : Int) (w : World) (hn : n ≤ 2000) (hs : name.size ≤ maxLen) (hown : w.ownsMap Ybaf.prog 9 posElem mb n D)
    (z1 z2 : Int) (hat : D.atKey (.string name.data.toList) (posD 0 0) = posD z1 z2) (hhas : Maps.has D (.string name.data.toList) = false) :
    Calls Ybaf.prog 12 #[.pointer (some ⟨rb, 0, none⟩), .map (some mb), .string wh, .string name, posV l c] w fun e w' => e = .returned (.bool true) ∧ w'.ownsMap Ybaf.prog 9 posElem mb (n + 1) (D.put (.string name.data.toList) (posD l c)) ∧ Kept [mb] w w' := by
  have HOWN : Hid (w.ownsMap Ybaf.prog 9 posElem mb n D) := hown
  have hmb : mb < w.heap.size := by obtain ⟨es, clock, h1, _⟩ := hown; exact (Array.getElem?_eq_some_iff.1 h1).1
  clear hown
  go_enter Ybaf.func12, Ybaf.ntmps12
  go_wp2_with (first
    | (at_lookup; refine wpList_lookup_pos rfl _ _ rfl mb n D rfl (HOWN.out.alloc _) name rfl hs z1 z2 hat false hhas ?_)
    | (at_mapUpdate; refine wpList_mapUpdate_own _ rfl _ _ _ 40 rfl 9 49 law9 Ybaf.underlying40 posElem mb n D rfl ((HOWN.out.alloc _).alloc _) (by unfold maxLen; omega) (.string name) (posV l c) (.string name.data.toList) rfl rfl (keyOf_string_mk Ybaf.underlying9 hs) (posD l c) [] rfl ?_; intro w1 hown1 hgrow1; have HO1 : Hid (w1.ownsMap Ybaf.prog 9 posElem mb (n + 1) (D.put (.string name.data.toList) (posD l c))) := hown1; have HG1 : Hid _ := hgrow1; clear hown1 hgrow1))
  go_ret
  refine ⟨rfl, HO1.out, ?_⟩
  have hb : Below w.heap.size w ((w.alloc (.cells #[.int .i64 l, .int .i64 c] 49)).alloc (.cells #[.int .i64 z1, .int .i64 z2] 49)) := ((Below.refl _ w).alloc (Nat.le_refl _) _).alloc (by simp) _
  have hg := HG1.out
  exact ⟨hg.os, hg.tape, hg.output, Nat.le_trans hb.size hg.size, fun k hk hkn => (hg.block k (Nat.lt_of_lt_of_le hk hb.size) (by simpa using hkn)).trans (hb.block k hk)⟩

end Go.Proofs.YbulkbvicFmt
