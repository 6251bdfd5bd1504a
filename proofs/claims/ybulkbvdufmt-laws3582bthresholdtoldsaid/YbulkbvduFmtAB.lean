/-
  Seat b3582aF: Set.appendKey at nil.
-/
import Derived.Test.YbulkbvduFmtB
import Derived.Test.YbulkbvduFmtShelf
import Derived.Laws.BytesArg
import Derived.RangeFuncBox
namespace Go.Proofs.YbulkbvduFmt
open Go.RowKit Go.Shelf

theorem le_any (x : Nat) (hx : x < 4096) (w : World) : Calls Ybaf.prog 56 #[.agg #[], .slice none 0 0, .int .u64 (x : Nat)] w fun e w' => ∃ g cap, e = .returned (.slice (some ⟨g, 0, none⟩) 8 cap) ∧ w'.ownsRow w.heap.size 5 1 (.slice (some ⟨g, 0, none⟩) 8 cap) 8 (Lib.byteCells (Lib.leBytes 8 x)) ∧ Below w.heap.size w w' := by
  have h := Any.binary_LE_AppendUint64 Ybaf.le64 w.heap.size 0 x (by omega) (.slice none 0 0) [] w (World.ownsRow_nil _ _ _ _) (Nat.le_refl _) (by omega)
  change Calls Ybaf.prog 56 _ _ _ at h
  refine h.mono ?_
  rintro e w' ⟨v', rfl, hown, hb⟩
  obtain ⟨g, cap, rfl⟩ := ownsRow_succ (k := 7) hown
  exact ⟨g, cap, rfl, hown, hb⟩

theorem le_len (x : Nat) : (Lib.leBytes 8 x).length = 8 := rfl

/-- The bytes of a row of the call's own, as a string. -/
theorem conv_row {W : World} {base g cap : Nat} {bs : List UInt8} (h : W.ownsRow base 5 1 (.slice (some ⟨g, 0, none⟩) 8 cap) 8 (Lib.byteCells bs)) (hl : bs.length = 8) :
    ∃ s : ByteArray, s.size ≤ maxLen ∧ ∀ W', Below W.heap.size W W' → (convert 23 9 (.slice (some ⟨g, 0, none⟩) 8 cap)).run Ybaf.prog W' = .ok (.string s) W' := by
  rcases h.2 with ⟨hv, _⟩ | ⟨g', cap', cur, hv, _, hgb, _, _, _, htk⟩
  · cases hv
  · cases hv
    refine ⟨strOfNums (bs.map fun b => ((b.toNat : Nat) : Int)), ?_, fun W' hb => ?_⟩
    · unfold maxLen
      simp [strOfNums, ByteArray.size, hl]
    · refine run_convert_bytes_arg W' 23 5 Ybaf.underlying23 Ybaf.underlying5 g 0 8 cap _ (by simp [hl]) (fun i hi => ?_) 9 Ybaf.underlying9
      have hg' : W'.heap[g]? = some (.cells cur 5 (0, 0)) := (hb.block g (Array.getElem?_eq_some_iff.1 hgb).1).trans hgb
      rw [Nat.zero_add, cell_of_row W' g i cur 5 _ hg']
      have e2 := congrArg (fun l : List Value => l[i]?) htk
      have hib : i < bs.length := by omega
      simp only [Nat.mul_one, Lib.byteCells, List.getElem?_map] at e2
      rw [List.getElem?_take, if_pos hi, List.getElem?_eq_getElem hib] at e2
      simp only [Array.getElem?_toList] at e2
      rw [e2]
      simp [hib]

set_option maxHeartbeats 2000000 in
theorem key_any (p : Option Addr) (len cap x : Nat) (w : World) (h : Wd w p len (x : Int)) :
    Calls Ybaf.prog 40 #[setV p len cap, .slice none 0 0] w fun e w' => ∃ (q : Option Addr) (m c : Nat) (s : ByteArray), e = .returned (.slice q m c) ∧ s.size ≤ maxLen ∧ (∀ W', Below w'.heap.size w' W' → (convert 23 9 (.slice q m c)).run Ybaf.prog W' = .ok (.string s) W') ∧ Below w.heap.size w w' := by
  rcases h with ⟨rfl, h0⟩ | ⟨rfl, h1, h2, b, off, rfl, hc⟩
  · go_enter Ybaf.func40, Ybaf.ntmps40
    go_wp2_with fail
    refine wp_loop_rounds 1 ?_
    rw [rounds_succ]
    go_wp2_with fail
    go_ret
    exact ⟨none, 0, 0, ⟨#[]⟩, rfl, Nat.zero_le _, fun W' _ => run_convert_bytes_nil W' 23 5 Ybaf.underlying23 Ybaf.underlying5 0 0 9 Ybaf.underlying9, (Below.refl _ w).alloc (Nat.le_refl _) _⟩
  · have hb := lt_of_cell hc
    have HL : Hid _ := fun (W : World) => le_any x (by omega) W
    have hcw : (w.alloc (.cells #[.slice (some ⟨b, off, none⟩) 1 cap] 51)).cell? ⟨b, off, none⟩ = some (.int .u64 (x : Nat)) := cell_later ((Below.refl _ w).alloc (Nat.le_refl _) _) hc
    go_enter Ybaf.func40, Ybaf.ntmps40
    go_wp2_with fail
    refine wp_loop_rounds 2 ?_
    rw [rounds_succ]
    go_wp2_with (go_at_call 56; refine (HL.out _).mono ?_; rintro e W2 ⟨g, cp, rfl, hown, hb2⟩)
    have HO : Hid _ := fun (_ : Unit) => conv_row hown (le_len x)
    have HB2 : Hid _ := hb2
    clear hown hb2
    rw [rounds_succ]
    go_wp2_with fail
    go_ret
    obtain ⟨s, hs, hcv⟩ := HO.out ()
    exact ⟨_, _, _, s, rfl, hs, hcv, ((Below.refl _ w).alloc (Nat.le_refl _) _).trans (HB2.out.mono (by simp))⟩

end Go.Proofs.YbulkbvduFmt
