/-
  Seat b3582aF: setOfWords, Set.complement.
-/
import Derived.Test.YbulkbvduFmtB
import Derived.Laws.BitsAllLaws
import Derived.Deep.OwnRows
namespace Go.Proofs.YbulkbvduFmt
open Go.RowKit

set_option maxHeartbeats 2000000 in
theorem words_any (b cap : Nat) (y : Int) (w : World) (hc : w.cell? ⟨b, 0, none⟩ = some (.int .u64 y)) :
    Calls Ybaf.prog 42 #[.slice (some ⟨b, 0, none⟩) 1 cap] w fun e w' => e = .returned (setV (some ⟨b, 0, none⟩) (if y = 0 then 0 else 1) cap) ∧ Below w.heap.size w w' := by
  have hb := lt_of_cell hc
  obtain ⟨W, hW⟩ : ∃ W, W = w.alloc (.cells #[.slice none 0 0] 51) := ⟨_, rfl⟩
  have hbel : Below w.heap.size w W := by rw [hW]; exact (Below.refl _ w).alloc (Nat.le_refl _) _
  have hcW := cell_later hbel hc
  have r0 : W.cell? ⟨w.heap.size, 0, none⟩ = some (.slice none 0 0) := by rw [hW]; go_simp
  have rf : W.frozen? ⟨w.heap.size, 0, none⟩ = false := by rw [hW]; go_simp
  have HB : Hid _ := hbel
  clear hbel hc
  go_enter Ybaf.func42, Ybaf.ntmps42
  go_wp2_with fail
  rw [← hW]
  clear hW
  by_cases hy : y = 0
  · subst hy
    go_loopw [0] (fun c wr => wr = W ∧ (c = .slice (some ⟨b, 0, none⟩) 1 cap ∨ c = .slice (some ⟨b, 0, none⟩) 0 cap)) (fun c _ => match c with | .slice _ n _ => n | _ => 0)
    case atStart => exact ⟨rfl, .inl rfl⟩
    case round =>
      obtain ⟨rfl, rfl | rfl⟩ := hrel
      · go_wp2_with fail
        exact ⟨⟨trivial, .inr rfl⟩, Nat.zero_lt_one⟩
      · go_wp2_with fail
        have k0 := World.cell?_setCell_same' wr ⟨w.heap.size, 0, none⟩ (.slice (some ⟨b, 0, none⟩) 0 cap) (by rw [r0]; rfl)
        exact bodyPost_ret (v := setV (some ⟨b, 0, none⟩) 0 cap) (by simp [results, Ybaf.results42, go_sem, k0]) rfl ⟨rfl, HB.out.setCell (p := ⟨w.heap.size, 0, none⟩) (Nat.le_refl _) _⟩
  · have hy1 : (y == 0) = false := by simpa using hy
    go_loopw [0] (fun c wr => wr = W ∧ c = .slice (some ⟨b, 0, none⟩) 1 cap) (fun _ _ => 0)
    case atStart => exact ⟨rfl, rfl⟩
    case round =>
      obtain ⟨rfl, rfl⟩ := hrel
      go_wp2_with fail
      have k0 := World.cell?_setCell_same' wr ⟨w.heap.size, 0, none⟩ (.slice (some ⟨b, 0, none⟩) 1 cap) (by rw [r0]; rfl)
      exact bodyPost_ret (v := setV (some ⟨b, 0, none⟩) 1 cap) (by simp [results, Ybaf.results42, go_sem, k0]) rfl ⟨rfl, HB.out.setCell (p := ⟨w.heap.size, 0, none⟩) (Nat.le_refl _) _⟩


theorem xor_range (a b : Int) : 0 ≤ bits .xor .u64 a b ∧ bits .xor .u64 a b < 18446744073709551616 := by
  show 0 ≤ IntKind.u64.wrap _ ∧ IntKind.u64.wrap _ < _
  rw [IntKind.wrap_u64]
  omega

theorem and_small (z : Int) (n : Nat) (h0 : 0 ≤ z) (h1 : z < 18446744073709551616) (hn : n ≤ 12) : ∃ y : Nat, y < 4096 ∧ bits .and .u64 z (IntKind.u64.wrap (IntKind.u64.wrap (2 ^ n) - 1)) = (y : Int) := by
  have h2 : 2 ^ n ≤ 2 ^ 12 := Nat.pow_le_pow_right (by omega) hn
  have h3 : 0 < 2 ^ n := Nat.two_pow_pos n
  have e1 : ((2 : Int) ^ n) = ((2 ^ n : Nat) : Int) := by simp
  rw [e1]
  generalize 2 ^ n = q at h2 h3 ⊢
  have e2 : IntKind.u64.wrap (IntKind.u64.wrap (q : Int) - 1) = ((q - 1 : Nat) : Int) := by
    rw [IntKind.wrap_u64, IntKind.wrap_u64]
    omega
  rw [e2, u64_and z _ h0 h1 (by omega) (by omega)]
  refine ⟨_, ?_, rfl⟩
  have := @Nat.and_le_right z.toNat ((q - 1 : Nat) : Int).toNat
  omega

set_option maxHeartbeats 4000000 in
set_option maxRecDepth 10000 in
theorem comp_any (p : Option Addr) (len cap n : Nat) (x : Int) (hn : 1 ≤ n) (hn12 : n ≤ 12) (w : World) (h : Wd w p len x) :
    Calls Ybaf.prog 30 #[setV p len cap, .int .i64 (n : Nat)] w fun e w' => ∃ (g len' cap' y : Nat), e = .returned (setV (some ⟨g, 0, none⟩) len' cap') ∧ w.heap.size ≤ g ∧ g < w'.heap.size ∧ Wd w' (some ⟨g, 0, none⟩) len' (y : Int) ∧ Below w.heap.size w w' := by
  have hmake : ∀ W, (Instr.makeSlice 49 (.int .i64 1) (.int .i64 1)).run Ybaf.prog W = .ok (.slice (some ⟨W.heap.size, 0, none⟩) 1 1) (W.alloc (.cells #[.int .u64 0] 91)) := fun _ => by kernel_rfl
  have hq : (((n : Nat) : Int) + 63) / 64 = 1 := by omega
  have hr : ((n : Nat) : Int) % 64 = (n : Nat) := by omega
  have hr0 : (((n : Nat) : Int) != 0) = true := by simp; omega
  have HW : Hid _ := h
  clear h
  go_enter Ybaf.func30, Ybaf.ntmps30
  go_wp2_with fail
  obtain ⟨g, hg⟩ : ∃ g, g = w.heap.size + 1 + 1 := ⟨_, rfl⟩
  obtain ⟨W0, hW0⟩ : ∃ W0, W0 = ((w.alloc (.cells #[.slice p len cap] 51)).alloc (.cells #[.slice none 0 0] 51)).alloc (.cells #[.int .u64 0] 91) := ⟨_, rfl⟩
  have hb0 : Below w.heap.size w W0 := by rw [hW0]; exact (((Below.refl _ w).alloc (Nat.le_refl _) _).alloc (by simp) _).alloc (by simp; omega) _
  have c0 : W0.cell? ⟨w.heap.size, 0, none⟩ = some (.slice p len cap) := by rw [hW0]; go_simp
  have c1 : W0.cell? ⟨w.heap.size + 1, 0, none⟩ = some (.slice none 0 0) := by rw [hW0]; go_simp
  have f1 : W0.frozen? ⟨w.heap.size + 1, 0, none⟩ = false := by rw [hW0]; go_simp
  have c2 : W0.cell? ⟨g, 0, none⟩ = some (.int .u64 0) := by rw [hW0, hg]; go_simp
  have f2 : W0.frozen? ⟨g, 0, none⟩ = false := by rw [hW0, hg]; go_simp
  have hs0 : W0.heap.size = g + 1 := by rw [hW0, hg]; simp
  rw [← hW0, ← hg]
  have HG : Hid _ := hg
  have HB0 : Hid _ := hb0
  have HWd : Hid (Wd W0 p len x) := Wd.later HW.out hb0
  clear hW0 hg hb0 hmake
  go_loopw [13] (fun c wr => (c = .int .i64 0 ∧ wr = W0) ∨ (c = .int .i64 1 ∧ ∃ z : Int, 0 ≤ z ∧ z < 18446744073709551616 ∧ wr.cell? ⟨g, 0, none⟩ = some (.int .u64 z) ∧ wr.frozen? ⟨g, 0, none⟩ = false ∧ wr.cell? ⟨w.heap.size + 1, 0, none⟩ = some (.slice none 0 0) ∧ wr.frozen? ⟨w.heap.size + 1, 0, none⟩ = false ∧ Hid (Below w.heap.size w wr))) (fun c _ => 1 - (intOf c).toNat)
  case atStart => exact .inl ⟨rfl, rfl⟩
  case round =>
    rcases hrel with ⟨rfl, rfl⟩ | ⟨rfl, z, hz0, hz1, cz, fz, r1, rf1, HBz⟩
    · go_wp2_with (go_at_call 41; refine (word_any p len cap x _ HWd.out).mono ?_; rintro e W1 ⟨rfl, hb1, hd1⟩; have d2 := cell_later hb1 c2; have e2 := (hb1.frozen (p := ⟨g, 0, none⟩) (by simp; omega)).trans f2)
      refine ⟨⟨_, (xor_range _ _).1, (xor_range _ _).2, rfl, ?_, ?_, ?_⟩, by simp [intOf]⟩
      · exact (World.cell?_setCell_other _ _ _ _ (by intro h; have h1 : g = w.heap.size + 1 := congrArg Addr.block h; have := HG.out; omega)).trans (cell_later hb1 c1)
      · exact (hb1.frozen (p := ⟨w.heap.size + 1, 0, none⟩) (by have := HG.out; simp; omega)).trans f1
      · exact (HB0.out.trans (hb1.mono (by have := HG.out; omega))).setCell (p := ⟨g, 0, none⟩) (by have := HG.out; simp; omega) _
    · go_wp2_with fail
      go_region
      obtain ⟨y, hy, he⟩ := and_small z n hz0 hz1 hn12
      rw [he]
      clear he
      obtain ⟨W5, hW5⟩ : ∃ W5, W5 = (wr.setCell ⟨g, 0, none⟩ (.int .u64 (y : Nat))).drew := ⟨_, rfl⟩
      have hgw : ¬ g = w.heap.size + 1 := by have := HG.out; omega
      have cy : W5.cell? ⟨g, 0, none⟩ = some (.int .u64 (y : Nat)) := by rw [hW5]; exact World.cell?_setCell_same' _ _ _ (by rw [cz]; rfl)
      have r5 : W5.cell? ⟨w.heap.size + 1, 0, none⟩ = some (.slice none 0 0) := by rw [hW5]; exact (World.cell?_setCell_other _ _ _ _ (by intro h; exact hgw (congrArg Addr.block h))).trans r1
      have rf5 : W5.frozen? ⟨w.heap.size + 1, 0, none⟩ = false := by rw [hW5]; exact (World.frozen?_setCell _ _ _ _).trans rf1
      have HB5 : Hid (Below w.heap.size w W5) := by rw [hW5]; exact (HBz.out.setCell (p := ⟨g, 0, none⟩) (by have := HG.out; simp; omega) _).drew
      rw [← hW5]
      clear hW5 cz fz r1 rf1
      obtain ⟨l, hl⟩ : ∃ l : Nat, l = if ((y : Nat) : Int) = 0 then 0 else 1 := ⟨_, rfl⟩
      have hS := words_any g 1 (y : Nat) W5 cy
      rw [← hl] at hS
      have HS : Hid _ := fun (_ : Unit) => hS
      have HL : Hid _ := hl
      have HCY : Hid _ := cy
      have hs5 : w.heap.size + 1 < W5.heap.size := lt_of_cell r5
      clear cy hl hS
      go_wp2_with (go_at_call 42; refine (HS.out ()).mono ?_; rintro e W6 ⟨rfl, hb6⟩; have r6 := cell_later hb6 r5; have rf6 := (hb6.frozen (p := ⟨w.heap.size + 1, 0, none⟩) hs5).trans rf5)
      have hl := HL.out
      have k0 := World.cell?_setCell_same' W6 ⟨w.heap.size + 1, 0, none⟩ (.slice (some ⟨g, 0, none⟩) l 1) (by rw [r6]; rfl)
      refine bodyPost_ret (v := setV (some ⟨g, 0, none⟩) l 1) (by simp [results, Ybaf.results30, go_sem, k0]) rfl ⟨g, l, 1, y, rfl, by have := HG.out; omega, by have h1 := lt_of_cell HCY.out; have h2 := hb6.size; simp [World.setCell]; omega, ?_, ?_⟩
      · by_cases h0 : y = 0
        · left; subst h0; exact ⟨by rw [hl]; rfl, rfl⟩
        · right
          refine ⟨by rw [hl, if_neg (by omega)], by omega, by omega, g, 0, rfl, ?_⟩
          exact (World.cell?_setCell_other _ _ _ _ (by intro h; exact hgw (congrArg Addr.block h).symm)).trans (cell_later hb6 HCY.out)
      · exact (HB5.out.trans (hb6.mono (by omega))).setCell (p := ⟨w.heap.size + 1, 0, none⟩) (by simp) _

end Go.Proofs.YbulkbvduFmt
