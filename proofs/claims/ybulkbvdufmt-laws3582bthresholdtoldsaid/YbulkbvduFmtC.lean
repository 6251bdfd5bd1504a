/-
  Seat b3582aF: Set.compareSameLen, Set.Compare.
-/
import Derived.Test.YbulkbvduFmtB
import Derived.Laws.BitsAllLaws
namespace Go.Proofs.YbulkbvduFmt
open Go.RowKit

def dW (x y : Int) : Int := bits .xor .u64 x y
/-- What compareSameLen answers on two words. -/
def cmpS (x y : Int) : Int := if dW x y = 0 then 0 else if bits .and .u64 (bits .and .u64 x (dW x y)) (IntKind.u64.wrap (- dW x y)) = 0 then 1 else -1
theorem xor_zero {x y : Int} (h0 : 0 ≤ x) (h1 : x < 4096) (h2 : 0 ≤ y) (h3 : y < 4096) (h : dW x y = 0) : x = y := by
  unfold dW at h
  rw [u64_xor x y h0 (by omega) h2 (by omega)] at h
  have hn : x.toNat ^^^ y.toNat = 0 := by omega
  have : x.toNat = y.toNat := Nat.eq_of_testBit_eq fun i => by
    have hb : (x.toNat ^^^ y.toNat).testBit i = Nat.testBit 0 i := by rw [hn]
    rw [Nat.testBit_xor, Nat.zero_testBit] at hb
    simpa using hb
  omega
theorem cmpS_m1 {x y : Int} (hd : ¬ dW x y = 0) (h : (bits .and .u64 (bits .and .u64 x (bits .xor .u64 x y)) (IntKind.u64.wrap (- bits .xor .u64 x y)) != 0) = true) : cmpS x y = -1 := by
  unfold cmpS
  rw [if_neg hd, if_neg (by simpa [dW] using h)]
theorem cmpS_p1 {x y : Int} (hd : ¬ dW x y = 0) (h : (bits .and .u64 (bits .and .u64 x (bits .xor .u64 x y)) (IntKind.u64.wrap (- bits .xor .u64 x y)) != 0) = false) : cmpS x y = 1 := by
  unfold cmpS
  rw [if_neg hd, if_pos (by simpa [dW] using h)]
theorem cmpS_self (y : Int) (h2 : 0 ≤ y) (h3 : y < 4096) : cmpS y y = 0 := by
  unfold cmpS dW
  rw [u64_xor y y h2 (by omega) h2 (by omega), Nat.xor_self]
  rfl

set_option maxHeartbeats 2000000 in
set_option maxRecDepth 10000 in
theorem same_one (p p' : Option Addr) (len len' cap cap' : Nat) (hm : len = 1 ∨ len' = 1) (x y : Int) (w : World) (h : Wd w p len x) (h' : Wd w p' len' y) :
    Calls Ybaf.prog 34 #[setV p len cap, setV p' len' cap'] w fun e w' => e = .returned (.int .i64 (cmpS x y)) ∧ Below w.heap.size w w' ∧ w.drawn ≤ w'.drawn := by
  have HX : Hid (Wd w p len x) := h
  have HY : Hid (Wd w p' len' y) := h'
  have hl := h.bounds
  have hl' := h'.bounds
  clear h h'
  obtain ⟨W, hW⟩ : ∃ W, W = (w.alloc (.cells #[.slice p len cap] 51)).alloc (.cells #[.slice p' len' cap'] 51) := ⟨_, rfl⟩
  have hbW : Below w.heap.size w W := by rw [hW]; exact ((Below.refl _ w).alloc (Nat.le_refl _) _).alloc (by simp) _
  have q0 : W.cell? ⟨w.heap.size, 0, none⟩ = some (.slice p len cap) := by rw [hW]; go_simp
  have q1 : W.cell? ⟨w.heap.size + 1, 0, none⟩ = some (.slice p' len' cap') := by rw [hW]; go_simp
  have hdW : w.drawn ≤ W.drawn := by rw [hW]; exact Nat.le_refl _
  have HD : Hid (w.drawn ≤ W.drawn) := hdW
  have HB : Hid (Below w.heap.size w W) := hbW
  clear hbW hdW
  by_cases hlt : len < len'
  · obtain rfl : len' = 1 := by omega
    obtain rfl : len = 0 := by omega
    go_enter Ybaf.func34, Ybaf.ntmps34
    go_wp2_with fail
    rw [← hW]
    clear hW
    go_loopw [14] (fun c wr => (c = .int .i64 0 ∧ wr = W) ∨ (c = .int .i64 1 ∧ x = y ∧ Hid (Below w.heap.size w wr ∧ w.drawn ≤ wr.drawn))) (fun c _ => 1 - (intOf c).toNat)
    case atStart => exact .inl ⟨rfl, rfl⟩
    case round =>
      rcases hrel with ⟨rfl, rfl⟩ | ⟨rfl, hxy, HB1⟩
      · have kx := HX.out.later HB.out
        have ky := HY.out.later HB.out
        obtain ⟨W1, rfl⟩ : ∃ W, W = wr := ⟨_, rfl⟩
        go_wp2_with fail
        go_region_held3 (fun wx => wx.cell? ⟨w.heap.size, 0, none⟩ = some (.slice p 0 cap) ∧ wx.cell? ⟨w.heap.size + 1, 0, none⟩ = some (.slice p' 1 cap') ∧ Wd wx p 0 x ∧ Wd wx p' 1 y)
          ((go_split_ands; refine ⟨?_, ?_, ?_, ?_⟩ <;> first | assumption | exact cell_later (by assumption) (by assumption) | exact Wd.later (by assumption) (by assumption) | go_keep))
          (first
            | (go_at_call_of 41 (Value.agg #[Value.slice p 0 cap]); refine (word_any p 0 cap x _ (by first | exact kx | (go_split_ands; assumption))).mono ?_; rintro e w1 ⟨rfl, hb1, hd1⟩)
            | (go_at_call_of 41 (Value.agg #[Value.slice p' 1 cap']); refine (word_any p' 1 cap' y _ (by first | exact ky | (go_split_ands; assumption))).mono ?_; rintro e w2 ⟨rfl, hb2, hd2⟩))
        have hb1' : Below W1.heap.size W1 w1 := ⟨hb1.os, hb1.tape, hb1.output, hb1.size, hb1.block⟩
        have HB2 : Hid (Below w.heap.size w w2 ∧ w.drawn ≤ w2.drawn) := ⟨(HB.out.trans (hb1'.mono HB.out.size)).trans (hb2.mono (Nat.le_trans HB.out.size hb1'.size)), Nat.le_trans HD.out (Nat.le_trans (Nat.le_trans (Nat.le_add_right _ _) hd1) hd2)⟩
        rename_i hHeld
        obtain ⟨z0, z1, zx, zy⟩ := hHeld
        have HZX : Hid (Wd w2 p 0 x) := zx
        clear hb1 hb2 hb1' hd1 hd2 zy zx q0 q1 kx ky z1
        by_cases hd : dW x y = 0
        · have hd' : (bits .xor .u64 x y == 0) = true := by have : bits .xor .u64 x y = 0 := hd; rw [this]; rfl
          have HXY : Hid (x = y) := xor_zero hl.1 hl.2.1 hl'.1 hl'.2.1 hd
          clear hd
          go_wp2_with fail
          go_roundw
          case rel => exact .inr ⟨by go_num, HXY.out, HB2⟩
          case measure => simp [intOf]
        · have hd' : (bits .xor .u64 x y == 0) = false := by have hh : ¬ bits .xor .u64 x y = 0 := hd; simpa using hh
          go_wp2_with (go_at_call 41; refine (word_any p 0 cap x _ HZX.out).mono ?_; rintro e w3 ⟨rfl, hb3, hd3⟩)
          all_goals
            go_ret
            exact ⟨by first | (rw [cmpS_m1 hd (by assumption)]; rfl) | (rw [cmpS_p1 hd (by assumption)]; rfl), HB2.out.1.trans (hb3.mono HB2.out.1.size), Nat.le_trans HB2.out.2 hd3⟩
      · have HC : Hid (cmpS x y = 0) := by show _ = _; rw [hxy]; exact cmpS_self y hl'.1 hl'.2.1
        clear hxy
        go_wp2_with fail
        go_ret
        exact ⟨by rw [HC.out]; rfl, HB1.out⟩
  · obtain rfl : len = 1 := by omega
    have hlt' : ¬ (1 : Int) < len' := by omega
    go_enter Ybaf.func34, Ybaf.ntmps34
    go_wp2_with fail
    rw [← hW]
    clear hW
    go_loopw [14] (fun c wr => (c = .int .i64 0 ∧ wr = W) ∨ (c = .int .i64 1 ∧ x = y ∧ Hid (Below w.heap.size w wr ∧ w.drawn ≤ wr.drawn))) (fun c _ => 1 - (intOf c).toNat)
    case atStart => exact .inl ⟨rfl, rfl⟩
    case round =>
      rcases hrel with ⟨rfl, rfl⟩ | ⟨rfl, hxy, HB1⟩
      · have kx := HX.out.later HB.out
        have ky := HY.out.later HB.out
        obtain ⟨W1, rfl⟩ : ∃ W, W = wr := ⟨_, rfl⟩
        go_wp2_with fail
        go_region_held3 (fun wx => wx.cell? ⟨w.heap.size, 0, none⟩ = some (.slice p 1 cap) ∧ wx.cell? ⟨w.heap.size + 1, 0, none⟩ = some (.slice p' len' cap') ∧ Wd wx p 1 x ∧ Wd wx p' len' y)
          ((go_split_ands; refine ⟨?_, ?_, ?_, ?_⟩ <;> first | assumption | exact cell_later (by assumption) (by assumption) | exact Wd.later (by assumption) (by assumption) | go_keep))
          (first
            | (go_at_call_of 41 (Value.agg #[Value.slice p 1 cap]); refine (word_any p 1 cap x _ (by first | exact kx | (go_split_ands; assumption))).mono ?_; rintro e w1 ⟨rfl, hb1, hd1⟩)
            | (go_at_call_of 41 (Value.agg #[Value.slice p' len' cap']); refine (word_any p' len' cap' y _ (by first | exact ky | (go_split_ands; assumption))).mono ?_; rintro e w2 ⟨rfl, hb2, hd2⟩))
        have hb1' : Below W1.heap.size W1 w1 := ⟨hb1.os, hb1.tape, hb1.output, hb1.size, hb1.block⟩
        have HB2 : Hid (Below w.heap.size w w2 ∧ w.drawn ≤ w2.drawn) := ⟨(HB.out.trans (hb1'.mono HB.out.size)).trans (hb2.mono (Nat.le_trans HB.out.size hb1'.size)), Nat.le_trans HD.out (Nat.le_trans (Nat.le_trans (Nat.le_add_right _ _) hd1) hd2)⟩
        rename_i hHeld
        obtain ⟨z0, z1, zx, zy⟩ := hHeld
        have HZX : Hid (Wd w2 p 1 x) := zx
        clear hb1 hb2 hb1' hd1 hd2 zy zx q0 q1 kx ky z1
        by_cases hd : dW x y = 0
        · have hd' : (bits .xor .u64 x y == 0) = true := by have : bits .xor .u64 x y = 0 := hd; rw [this]; rfl
          have HXY : Hid (x = y) := xor_zero hl.1 hl.2.1 hl'.1 hl'.2.1 hd
          clear hd
          go_wp2_with fail
          go_roundw
          case rel => exact .inr ⟨by go_num, HXY.out, HB2⟩
          case measure => simp [intOf]
        · have hd' : (bits .xor .u64 x y == 0) = false := by have hh : ¬ bits .xor .u64 x y = 0 := hd; simpa using hh
          go_wp2_with (go_at_call 41; refine (word_any p 1 cap x _ HZX.out).mono ?_; rintro e w3 ⟨rfl, hb3, hd3⟩)
          all_goals
            go_ret
            exact ⟨by first | (rw [cmpS_m1 hd (by assumption)]; rfl) | (rw [cmpS_p1 hd (by assumption)]; rfl), HB2.out.1.trans (hb3.mono HB2.out.1.size), Nat.le_trans HB2.out.2 hd3⟩
      · have HC : Hid (cmpS x y = 0) := by show _ = _; rw [hxy]; exact cmpS_self y hl'.1 hl'.2.1
        clear hxy
        go_wp2_with fail
        go_ret
        exact ⟨by rw [HC.out]; rfl, HB1.out⟩

end Go.Proofs.YbulkbvduFmt
