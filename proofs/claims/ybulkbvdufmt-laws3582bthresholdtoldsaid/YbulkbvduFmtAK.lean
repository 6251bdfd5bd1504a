/-
  Seat b3582aF: the walk of Unchecked on the threshold profile.
-/
import Derived.Test.YbulkbvduFmtAG
import Derived.Test.YbulkbvduFmtAI
import Derived.Test.YbulkbvduFmtX
import Derived.Test.YbulkbvduFmtZ
import Derived.Deep.RegionWith
namespace Go.Proofs.YbulkbvduFmt
open Go.RowKit Go.Shelf

theorem Ord.below {W W' : World} {ob n i : Nat} (h : Ord W ob n i) (hb : Below W.heap.size W W') : Ord W' ob n i := by
  obtain ⟨cs, h1, h2, h3⟩ := h
  refine ⟨cs, (hb.block ob (Array.getElem?_eq_some_iff.1 h1).1).trans h1, h2, fun j hj => ?_⟩
  obtain ⟨g, cap, cur, k1, k2, k3, k4⟩ := h3 j hj
  exact ⟨g, cap, cur, k1, k2, (hb.block g (Array.getElem?_eq_some_iff.1 k3).1).trans k3, k4⟩

/-- What Unchecked's callees read. -/
structure Good (b1 b2 : Nat) (D : Nat → Prop) (ms1 ms2 : List Nat) (p : Option Addr) (len x : Nat) (W : World) : Prop where
  r1 : SetRow W b1 0 D ms1
  r2 : SetRow W b2 0 D ms2
  tab : Tab W
  wd : Wd W p len (x : Int)
  l1 : b1 < W.heap.size
  l2 : b2 < W.heap.size
theorem Good.later {b1 b2 : Nat} {D : Nat → Prop} {ms1 ms2 : List Nat} {p : Option Addr} {len x : Nat} {W W' : World} (h : Good b1 b2 D ms1 ms2 p len x W) (hb : Below W.heap.size W W') : Good b1 b2 D ms1 ms2 p len x W' :=
  ⟨h.r1.later h.l1 hb, h.r2.later h.l2 hb, tab_below h.tab hb (tab_lt h.tab), h.wd.later hb, Nat.lt_of_lt_of_le h.l1 hb.size, Nat.lt_of_lt_of_le h.l2 hb.size⟩
theorem Good.draw {b1 b2 : Nat} {D : Nat → Prop} {ms1 ms2 : List Nat} {p : Option Addr} {len x : Nat} {W : World} (h : Good b1 b2 D ms1 ms2 p len x W) : Good b1 b2 D ms1 ms2 p len x W.drew := h.later (Below.refl _ _).drew

set_option maxHeartbeats 4000000 in
set_option maxRecDepth 100000 in
theorem unchecked_any (lo q n t : Nat) (hn : n ≤ 12) (ht : t < n) (w : World) (hP : Prof w lo q n t) (hT : Tab w) :
    Calls Ybaf.prog 5 #[.pointer (some ⟨q, 0, none⟩)] w fun e w' => ∃ rb ob g cc p2 p3, e = .returned (.pointer (some ⟨rb, 0, none⟩)) ∧ w'.cell? ⟨rb, 0, none⟩ = some (.slice (some ⟨g, 0, none⟩) (t + 1) cc) ∧ (∀ j, j < t + 1 → w'.cell? ⟨g, j, none⟩ = some (.int .i64 (j : Nat))) ∧ w'.cell? ⟨rb, 1, none⟩ = some (.slice (some ⟨ob, 0, none⟩) n n) ∧ w'.cell? ⟨rb, 2, none⟩ = some (.pointer (some p2)) ∧ w'.cell? ⟨rb, 3, none⟩ = some (.pointer (some p3)) ∧ Ord w' ob n n ∧ Below w.heap.size w w' := by
  obtain ⟨qp, qc, b1, c1, b2, c2, ms1, ms2, hlo, c0, k1, k2, hfirst, hl1, hl2, hl2', hb1, hb2, hr1, hr2⟩ := hP
  obtain ⟨p, len, cp, hce, _, hwd, _⟩ := hr1 0 _ hfirst
  rw [Nat.zero_add] at hce
  have hm0 : 0 < ms1.length := (List.getElem?_eq_some_iff.1 hfirst).1
  have hml : memL 12 (2 ^ (t + 1) - 1) = List.range (t + 1) := memL_ones ⟨t + 1, by omega⟩
  have hG : Good b1 b2 (fun b => b ≠ b1 ∧ b ≠ b2) ms1 ms2 p len (2 ^ (t + 1) - 1) w := ⟨hr1, hr2, hT, hwd, hb1, hb2⟩
  have HMem : Hid _ := fun (W : World) (h : Good b1 b2 (fun b => b ≠ b1 ∧ b ≠ b2) ms1 ms2 p len (2 ^ (t + 1) - 1) W) => Members_any p len cp (2 ^ (t + 1) - 1) (by rw [hml]; simp) W h.wd h.tab
  rw [hml] at HMem
  simp only [List.length_range] at HMem
  have HI1 : Hid _ := fun (W : World) (h : Good b1 b2 (fun b => b ≠ b1 ∧ b ≠ b2) ms1 ms2 p len (2 ^ (t + 1) - 1) W) => newIndex_any b1 0 c1 _ ms1 W h.r1 hm0 hl1 h.tab
  have HI2 : Hid _ := fun (W : World) (h : Good b1 b2 (fun b => b ≠ b1 ∧ b ≠ b2) ms1 ms2 p len (2 ^ (t + 1) - 1) W) => newIndex_any b2 0 c2 _ ms2 W h.r2 hl2 hl2' h.tab
  have HO : Hid _ := fun (W : World) => orders_any n (by omega) W
  obtain ⟨m1, hM1⟩ : ∃ m, m = ms1.length := ⟨_, rfl⟩
  obtain ⟨m2, hM2⟩ : ∃ m, m = ms2.length := ⟨_, rfl⟩
  rw [← hM1] at k1 hm0 HI1
  rw [← hM2] at k2 HI2
  have hm0i : (0 : Int) < (m1 : Nat) := by omega
  have e1 : ((t + 1 : Nat) : Int) = (t : Int) + 1 := by omega
  clear hfirst hl1 hl2 hl2' hr1 hr2 hwd hml hM1 hM2 hb1 hb2 hT hlo
  go_enter Ybaf.func5, Ybaf.ntmps5
  go_wp2_with fail
  go_region_held3 (fun w' => w'.cell? ⟨q, 0, none⟩ = some (.slice (some ⟨qp, 0, none⟩) n qc) ∧ w'.cell? ⟨q, 1, none⟩ = some (.slice (some ⟨b1, 0, none⟩) m1 c1) ∧ w'.cell? ⟨q, 2, none⟩ = some (.slice (some ⟨b2, 0, none⟩) m2 c2) ∧ w'.cell? ⟨b1, 0, none⟩ = some (.slice p len cp) ∧ Good b1 b2 (fun b => b ≠ b1 ∧ b ≠ b2) ms1 ms2 p len (2 ^ (t + 1) - 1) w')
    ((go_split_ands; refine ⟨?_, ?_, ?_, ?_, ?_⟩ <;> first | assumption | exact Good.draw (by assumption) | exact Good.later (by assumption) (by assumption) | exact Good.later (by assumption) ((Below.refl _ _).alloc (Nat.le_refl _) _) | exact cell_later (by assumption) (by assumption) | go_keep))
    (first
      | (go_at_call 15; refine (HMem.out _ (by go_split_ands; assumption)).mono ?_; rintro e w1 ⟨g, cc, rfl, hmc, hgg, hb1⟩)
      | (go_at_call 16; refine (HO.out _).mono ?_; rintro e w2 ⟨ob, rfl, hord, hb2⟩)
      | (go_at_call_of 17 (Value.slice (some ⟨b2, 0, none⟩) m2 c2); refine (HI2.out _ (by go_split_ands; assumption)).mono ?_; rintro e w3 ⟨⟨p2, rfl⟩, hb3⟩)
      | (go_at_call_of 17 (Value.slice (some ⟨b1, 0, none⟩) m1 c1); refine (HI1.out _ (by go_split_ands; assumption)).mono ?_; rintro e w4 ⟨⟨p3, rfl⟩, hb4⟩))
  have hb1' : Below w.heap.size w w1 := ⟨hb1.os, hb1.tape, hb1.output, hb1.size, hb1.block⟩
  have h12 := hb1'.trans (hb2.mono hb1'.size)
  have h3 := hb3.trans (hb4.mono hb3.size)
  have h5 : Below w2.heap.size w2 (w4.alloc (.cells #[.slice (some ⟨g, 0, none⟩) (t + 1) cc, .slice (some ⟨ob, 0, none⟩) n n, .pointer (some p2), .pointer (some p3)] 35)) := h3.alloc h3.size _
  have hfin : Below w1.heap.size w1 (w4.alloc (.cells #[.slice (some ⟨g, 0, none⟩) (t + 1) cc, .slice (some ⟨ob, 0, none⟩) n n, .pointer (some p2), .pointer (some p3)] 35)) := hb2.trans (h5.mono hb2.size)
  have HO2 : Hid _ := hord.below h5
  have HB : Hid _ := h12.trans (h5.mono h12.size)
  have HC : Hid (∀ j, j < t + 1 → (w4.alloc (.cells #[.slice (some ⟨g, 0, none⟩) (t + 1) cc, .slice (some ⟨ob, 0, none⟩) n n, .pointer (some p2), .pointer (some p3)] 35)).cell? ⟨g, j, none⟩ = some (.int .i64 (j : Nat))) := fun j hj => cell_later hfin (hmc j j (by simp [hj]))
  rename_i hHeld
  clear hHeld hord h5 hb1 hb2 hb3 hb4 hb1' h12 h3 hmc hfin
  go_wp2_with fail
  go_ret
  exact ⟨w4.heap.size, ob, g, cc, p2, p3, rfl, by go_simp, HC.out, by go_simp, by go_simp, by go_simp, HO2.out, HB.out⟩

end Go.Proofs.YbulkbvduFmt
