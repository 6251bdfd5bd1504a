/-
  Seat b3582aF: Set.Compare.
-/
import Derived.Test.YbulkbvduFmtC
namespace Go.Proofs.YbulkbvduFmt
open Go.RowKit

set_option maxHeartbeats 2000000 in
theorem same_none (p p' : Option Addr) (cap cap' : Nat) (w : World) :
    Calls Ybaf.prog 34 #[setV p 0 cap, setV p' 0 cap'] w fun e w' => e = .returned (.int .i64 0) ∧ Below w.heap.size w w' ∧ w.drawn ≤ w'.drawn := by
  go_enter Ybaf.func34, Ybaf.ntmps34
  go_wp2_with fail
  go_loopw [14] (fun c wr => c = .int .i64 0 ∧ wr = (w.alloc (.cells #[.slice p 0 cap] 51)).alloc (.cells #[.slice p' 0 cap'] 51)) (fun _ _ => 0)
  case atStart => exact ⟨rfl, rfl⟩
  case round =>
    obtain ⟨rfl, rfl⟩ := hrel
    go_wp2_with fail
    go_ret
    exact ⟨rfl, ((Below.refl _ w).alloc (Nat.le_refl _) _).alloc (by simp) _, Nat.le_refl _⟩

theorem same_any (p p' : Option Addr) (len len' cap cap' : Nat) (x y : Int) (w : World) (h : Wd w p len x) (h' : Wd w p' len' y) :
    Calls Ybaf.prog 34 #[setV p len cap, setV p' len' cap'] w fun e w' => e = .returned (.int .i64 (cmpS x y)) ∧ Below w.heap.size w w' ∧ w.drawn ≤ w'.drawn := by
  by_cases hm : len = 1 ∨ len' = 1
  · exact same_one p p' len len' cap cap' hm x y w h h'
  · rcases h with ⟨rfl, rfl⟩ | ⟨e, _⟩
    · rcases h' with ⟨rfl, rfl⟩ | ⟨e, _⟩
      · rw [cmpS_self 0 (by omega) (by omega)]; exact same_none p p' cap cap' w
      · omega
    · omega

/-- What Set.Compare answers. -/
def cmpSet (x y : Int) : Int := if cmpI (pop 12 x.toNat : Nat) (pop 12 y.toNat : Nat) = 0 then cmpS x y else cmpI (pop 12 x.toNat : Nat) (pop 12 y.toNat : Nat)

set_option maxHeartbeats 2000000 in
set_option maxRecDepth 10000 in
theorem cmp_any (p p' : Option Addr) (len len' cap cap' : Nat) (x y : Int) (w : World) (h : Wd w p len x) (h' : Wd w p' len' y) :
    Calls Ybaf.prog 22 #[setV p len cap, setV p' len' cap'] w fun e w' => e = .returned (.int .i64 (cmpSet x y)) ∧ Below w.heap.size w w' ∧ w.drawn ≤ w'.drawn := by
  have HX : Hid (Wd w p len x) := h
  have HY : Hid (Wd w p' len' y) := h'
  clear h h'
  obtain ⟨W, hW⟩ : ∃ W, W = (w.alloc (.cells #[.slice p len cap] 51)).alloc (.cells #[.slice p' len' cap'] 51) := ⟨_, rfl⟩
  have hbW : Below w.heap.size w W := by rw [hW]; exact ((Below.refl _ w).alloc (Nat.le_refl _) _).alloc (by simp) _
  have q0 : W.cell? ⟨w.heap.size, 0, none⟩ = some (.slice p len cap) := by rw [hW]; go_simp
  have q1 : W.cell? ⟨w.heap.size + 1, 0, none⟩ = some (.slice p' len' cap') := by rw [hW]; go_simp
  have hdW : w.drawn ≤ W.drawn := by rw [hW]; exact Nat.le_refl _
  have HD : Hid (w.drawn ≤ W.drawn) := hdW
  have HB : Hid (Below w.heap.size w W) := hbW
  have kx := HX.out.later hbW
  have ky := HY.out.later hbW
  clear hbW hdW
  go_enter Ybaf.func22, Ybaf.ntmps22
  go_wp2_with fail
  rw [← hW]
  clear hW
  go_region_held3 (fun wx => wx.cell? ⟨w.heap.size, 0, none⟩ = some (.slice p len cap) ∧ wx.cell? ⟨w.heap.size + 1, 0, none⟩ = some (.slice p' len' cap') ∧ Wd wx p len x ∧ Wd wx p' len' y)
    ((go_split_ands; refine ⟨?_, ?_, ?_, ?_⟩ <;> first | assumption | exact cell_later (by assumption) (by assumption) | exact Wd.later (by assumption) (by assumption) | go_keep))
    (first
      | (go_at_call_of 26 (Value.agg #[Value.slice p len cap]); refine (len_any p len cap x _ (by first | exact kx | (go_split_ands; assumption))).mono ?_; rintro e w1 ⟨rfl, hb1, hd1⟩)
      | (go_at_call_of 26 (Value.agg #[Value.slice p' len' cap']); refine (len_any p' len' cap' y _ (by first | exact ky | (go_split_ands; assumption))).mono ?_; rintro e w2 ⟨rfl, hb2, hd2⟩)
      | (go_at_call 33; refine (compare_any _ _ _).mono ?_; rintro e w3 ⟨rfl, rfl⟩))
  have hb1' : Below W.heap.size W w1 := ⟨hb1.os, hb1.tape, hb1.output, hb1.size, hb1.block⟩
  have HB2 : Hid (Below w.heap.size w w3 ∧ w.drawn ≤ w3.drawn) := ⟨(HB.out.trans (hb1'.mono HB.out.size)).trans (hb2.mono (Nat.le_trans HB.out.size hb1'.size)), Nat.le_trans HD.out (Nat.le_trans (Nat.le_trans (Nat.le_add_right _ _) hd1) hd2)⟩
  rename_i hHeld
  obtain ⟨z0, z1, zx, zy⟩ := hHeld
  have HS : Hid _ := fun (_ : Unit) => same_any p p' len len' cap cap' x y w3 zx zy
  clear hb1 hb2 hb1' hd1 hd2 q0 q1 kx ky zx zy
  obtain ⟨k, hk⟩ : ∃ k, k = cmpI (pop 12 x.toNat : Nat) (pop 12 y.toNat : Nat) := ⟨_, rfl⟩
  rw [← hk]
  by_cases h0 : k = 0
  · have HC : Hid (cmpSet x y = cmpS x y) := by show _ = _; unfold cmpSet; rw [if_pos (by rw [← hk]; exact h0)]
    have hq : (k != 0) = false := by rw [h0]; rfl
    clear h0 hk
    go_wp2_with (go_at_call 34; refine (HS.out ()).mono ?_; rintro e w4 ⟨rfl, hb4, hd4⟩)
    go_ret
    exact ⟨by rw [HC.out]; rfl, HB2.out.1.trans (hb4.mono HB2.out.1.size), Nat.le_trans HB2.out.2 hd4⟩
  · have HC : Hid (cmpSet x y = k) := by show _ = _; unfold cmpSet; rw [if_neg (by rw [← hk]; exact h0)]; exact hk.symm
    have hq : (k != 0) = true := by rw [bne_iff_ne]; exact h0
    clear h0 hk
    go_wp2_with fail
    go_ret
    exact ⟨by rw [HC.out]; rfl, HB2.out.1, HB2.out.2⟩

end Go.Proofs.YbulkbvduFmt
