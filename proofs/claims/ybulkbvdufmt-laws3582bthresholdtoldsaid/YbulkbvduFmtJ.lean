/-
  Seat b3582aF: newSetInto at nil, NewSet.
-/
import Derived.Test.YbulkbvduFmtI
import Derived.Test.YbulkbvduFmtL
import Derived.Laws.IdiomCopy
import Derived.Laws.BitsAllLaws
import Derived.Deep.CutBlock
namespace Go.Proofs.YbulkbvduFmt
open Go.RowKit

theorem first_cell {w W : World} {o : Obj} {v : Value} {cs : List Value} (h : W.heap[(w.alloc o).heap.size]? = some (.cells (v :: cs).toArray 91 (0, 0))) :
    W.cell? ⟨w.heap.size + 1, 0, none⟩ = some v ∧ W.frozen? ⟨w.heap.size + 1, 0, none⟩ = false := by
  rw [World.size_alloc] at h
  simp [World.cell?, World.frozen?, h]

set_option maxHeartbeats 1000000 in
theorem run_clear1 (g cap : Nat) (v : Value) (W : World) (hc : W.cell? ⟨g, 0, none⟩ = some v) (hf : W.frozen? ⟨g, 0, none⟩ = false) :
    (Builtin.clear_ #[49] 0 #[.slice (some ⟨g, 0, none⟩) 1 cap]).run Ybaf.prog W = .ok (.tuple #[]) (W.setCell ⟨g, 0, none⟩ (.int .u64 0)) := by
  have hz : ∀ W, (zeroValue 91).run Ybaf.prog W = .ok (.int .u64 0) W := fun _ => by kernel_rfl
  have hzc : Builtin.zeroCells (Value.int .u64 0).cells 1 = #[.int .u64 0] := by kernel_rfl
  have hst := run_storeCells_cells (P := Ybaf.prog) g 0 [.int .u64 0] 0 W (by
    intro j hj
    have : j = 0 := by simpa using hj
    subst this
    rw [hc]; rfl) (by
    intro j hj
    have : j = 0 := by simpa using hj
    subst this
    exact hf) (by simp [Value.oneCell'])
  simp [Builtin.clear_, run_underlying Ybaf.underlying49, hz, hzc, hst, World.setCells]


theorem or_mask (f : Nat → Nat) (i : Nat) (hf : f i < 12) (hm : mask f i < 4096) (h : ∀ j, j + 1 < i + 1 → f j < f (j + 1)) :
    bits .or .u64 ((mask f i : Nat) : Int) (IntKind.u64.wrap (2 ^ f i)) = ((mask f (i + 1) : Nat) : Int) := by
  have h2 : 2 ^ f i < 2 ^ 12 := Nat.pow_lt_pow_right (by omega) hf
  have e : IntKind.u64.wrap (2 ^ f i) = ((2 ^ f i : Nat) : Int) := by
    have e1 : ((2 : Int) ^ f i) = ((2 ^ f i : Nat) : Int) := by simp
    rw [e1, IntKind.wrap_u64]
    generalize 2 ^ f i = q at h2 ⊢
    omega
  rw [e, u64_or_nat _ _ (by omega) (by omega), mask_or f i h]

set_option maxHeartbeats 4000000 in
set_option maxRecDepth 10000 in
theorem into_any (b off k cap : Nat) (f : Nat → Nat) (w : World) (hk : 1 ≤ k) (hk12 : k ≤ 12) (hb : ∀ j, j < k → f j < 12) (hasc : ∀ j, j + 1 < k → f j < f (j + 1))
    (hc : ∀ j, j < k → w.cell? ⟨b, off + j, none⟩ = some (.int .i64 (f j : Nat))) :
    Calls Ybaf.prog 36 #[.slice none 0 0, .slice (some ⟨b, off, none⟩) k cap] w fun e w' => (∃ g cap', w.heap.size ≤ g ∧ e = .returned (setV (some ⟨g, 0, none⟩) 1 cap') ∧ w'.cell? ⟨g, 0, none⟩ = some (.int .u64 (mask f k : Nat))) ∧ Below w.heap.size w w' := by
  have hbs := World.block_lt_of_cell? _ _ (hc 0 (by omega))
  simp only at hbs
  have HC : Hid _ := hc
  have HA : Hid _ := hasc
  have HF : Hid _ := hb
  clear hc hasc hb
  go_enter Ybaf.func36, Ybaf.ntmps36
  go_wp2_with fail
  go_loopw [5, 13] (fun c5 c13 wr => wr = w.alloc (.cells #[.slice none 0 0] 51) ∧ ∃ j : Nat, j ≤ k ∧ c13 = .int .i64 (j : Nat) ∧ c5 = .int .i64 (if j = 0 then 0 else 1)) (fun _ c13 _ => k - (intOf c13).toNat)
  case atStart => exact ⟨rfl, 0, by omega, rfl, rfl⟩
  case round =>
    obtain ⟨rfl, j, hj, rfl, rfl⟩ := hrel
    by_cases hjk : j < k
    · have hcj := HC.out j hjk
      have hfj := HF.out j hjk
      have hlt : ((j : Nat) : Int) < (k : Nat) := by omega
      obtain ⟨x, hx⟩ : ∃ x : Int, x = (f j : Nat) := ⟨_, rfl⟩
      rw [← hx] at hcj
      have hx0 : 0 ≤ x := by omega
      have hx1 : ¬ x < 0 := by omega
      have hx64 : x / 64 = 0 := by omega
      clear hx
      go_wp2_with fail
      refine ⟨⟨trivial, j + 1, by omega, by simp, ?_⟩, by simp [intOf]; omega⟩
      by_cases h0 : j = 0 <;> simp [h0]
    · obtain rfl : j = k := by omega
      have hlt : ¬ ((j : Nat) : Int) < (j : Nat) := by omega
      rw [if_neg (by omega)]
      have hclr := run_clear1
      go_upto_block 99 with (go_at_call 55; refine (grow_nil _).mono ?_; rintro r W2 ⟨⟨cap', hcap, rfl, cs, hh⟩, hsz, hb2⟩; obtain ⟨c0, f0⟩ := first_cell hh)
      obtain ⟨g, hg⟩ : ∃ g, g = w.heap.size + 1 := ⟨_, rfl⟩
      have hsz' : g < W2.heap.size := by rw [hg]; simpa using hsz
      have HB : Hid (Below w.heap.size w W2) := ((Below.refl _ w).alloc (Nat.le_refl _) _).trans (hb2.mono (by simp))
      have r0 : W2.cell? ⟨w.heap.size, 0, none⟩ = some (.slice none 0 0) := by
        rw [hb2.cell (by simp)]; go_simp
      have rf : W2.frozen? ⟨w.heap.size, 0, none⟩ = false := by
        rw [hb2.frozen (by simp)]; go_simp
      rw [← hg] at c0 f0 ⊢
      have HG : Hid _ := hg
      have hgw : ¬ g = w.heap.size := by omega
      have hgb : ¬ g = b := by omega
      clear hg hclr hh hsz hb2 hlt
      obtain ⟨W3, hW3⟩ : ∃ W3, W3 = W2.setCell ⟨g, 0, none⟩ (.int .u64 0) := ⟨_, rfl⟩
      have HB3 : Hid (Below w.heap.size w W3) := by rw [hW3]; exact HB.out.setCell (p := ⟨g, 0, none⟩) (by have := HG.out; simp; omega) _
      have c3 : W3.cell? ⟨g, 0, none⟩ = some (.int .u64 0) := by rw [hW3]; exact World.cell?_setCell_same' _ _ _ (by rw [c0]; rfl)
      have f3 : W3.frozen? ⟨g, 0, none⟩ = false := by rw [hW3, World.frozen?_setCell]; exact f0
      have r3 : W3.cell? ⟨w.heap.size, 0, none⟩ = some (.slice none 0 0) := by rw [hW3, World.cell?_setCell_other _ _ _ _ (by intro h; exact hgw (congrArg Addr.block h))]; exact r0
      have rf3 : W3.frozen? ⟨w.heap.size, 0, none⟩ = false := by rw [hW3, World.frozen?_setCell]; exact rf
      rw [← hW3]
      clear hW3 HB c0 f0 r0 rf hsz'
      go_loopw [39] (fun c wr => ∃ i : Nat, i ≤ j ∧ c = .int .i64 (i : Nat) ∧ Hid (Below w.heap.size w wr) ∧ wr.cell? ⟨g, 0, none⟩ = some (.int .u64 (mask f i : Nat)) ∧ wr.frozen? ⟨g, 0, none⟩ = false ∧ wr.cell? ⟨w.heap.size, 0, none⟩ = some (.slice none 0 0) ∧ wr.frozen? ⟨w.heap.size, 0, none⟩ = false) (fun c _ => j - (intOf c).toNat)
      case atStart => exact ⟨0, by omega, rfl, HB3, c3, f3, r3, rf3⟩
      case round =>
        obtain ⟨i, hi, rfl, HBi, ci, fi, ri, rfi⟩ := hrel
        by_cases hij : i < j
        · have hlt : ((i : Nat) : Int) < (j : Nat) := by omega
          have hci : wr.cell? ⟨b, off + i, none⟩ = some (.int .i64 (f i : Nat)) := by rw [HBi.out.cell (by simpa using hbs)]; exact HC.out i hij
          have hfi := HF.out i hij
          have hq : ((f i : Nat) : Int) / 64 = 0 := by omega
          have hr : ((f i : Nat) : Int) % 64 = (f i : Nat) := by omega
          have HM : Hid _ := or_mask f i hfi (mask_lt f i 12 (fun q hq => HA.out q (by omega)) (fun q hq => HF.out q (by omega))) (fun q hq => HA.out q (by omega))
          clear hfi
          go_wp2_with fail
          go_region
          go_wp2_with fail
          rw [HM.out]
          refine ⟨⟨i + 1, by omega, by simp, ?_, ?_, ?_, ?_, ?_⟩, by simp [intOf]; omega⟩
          · exact (HBi.out.setCell (p := ⟨g, 0, none⟩) (by have := HG.out; simp; omega) _).drew
          · exact World.cell?_setCell_same' _ _ _ (by rw [ci]; rfl)
          · exact (World.frozen?_setCell _ _ _ _).trans fi
          · exact (World.cell?_setCell_other _ _ _ _ (by intro h; exact hgw (congrArg Addr.block h))).trans ri
          · exact (World.frozen?_setCell _ _ _ _).trans rfi
        · obtain rfl : i = j := by omega
          have hlt : ¬ ((i : Nat) : Int) < (i : Nat) := by omega
          go_wp2_with fail
          have k0 := World.cell?_setCell_same' wr ⟨w.heap.size, 0, none⟩ (.slice (some ⟨g, 0, none⟩) 1 cap') (by rw [ri]; rfl)
          refine bodyPost_ret (v := setV (some ⟨g, 0, none⟩) 1 cap') (by simp [results, Ybaf.results36, go_sem, k0]) rfl ⟨⟨g, by have := HG.out; omega, ⟨cap', rfl⟩, ?_⟩, ?_⟩
          · exact (World.cell?_setCell_other _ _ _ _ (by intro h; exact hgw (congrArg Addr.block h).symm)).trans ci
          · exact HBi.out.setCell (p := ⟨w.heap.size, 0, none⟩) (Nat.le_refl _) _

set_option maxHeartbeats 1000000 in
theorem new_any (b off k cap : Nat) (f : Nat → Nat) (w : World) (hk : 1 ≤ k) (hk12 : k ≤ 12) (hb : ∀ j, j < k → f j < 12) (hasc : ∀ j, j + 1 < k → f j < f (j + 1))
    (hc : ∀ j, j < k → w.cell? ⟨b, off + j, none⟩ = some (.int .i64 (f j : Nat))) :
    Calls Ybaf.prog 25 #[.slice (some ⟨b, off, none⟩) k cap] w fun e w' => (∃ g cap', w.heap.size ≤ g ∧ e = .returned (setV (some ⟨g, 0, none⟩) 1 cap') ∧ w'.cell? ⟨g, 0, none⟩ = some (.int .u64 (mask f k : Nat))) ∧ Below w.heap.size w w' := by
  have HI : Hid _ := fun (W : World) (h : Below w.heap.size w W) => into_any b off k cap f W hk hk12 hb hasc (fun j hj => cell_later h (hc j hj))
  clear hb hasc hc
  go_enter Ybaf.func25, Ybaf.ntmps25
  go_wp2_with (go_at_call 36; refine (HI.out _ ((Below.refl _ w).alloc (Nat.le_refl _) _)).mono ?_; rintro r W2 ⟨⟨g, cap', hg, rfl, hc2⟩, hb2⟩; have r0 : W2.cell? ⟨w.heap.size, 0, none⟩ = some (.slice none 0 0) := (hb2.cell (by simp)).trans (by go_simp); have rf : W2.frozen? ⟨w.heap.size, 0, none⟩ = false := (hb2.frozen (by simp)).trans (by go_simp))
  have hgw : ¬ g = w.heap.size := by simp at hg; omega
  have k0 := World.cell?_setCell_same' W2 ⟨w.heap.size, 0, none⟩ (.slice (some ⟨g, 0, none⟩) 1 cap') (by rw [r0]; rfl)
  refine bodyPost_ret (v := setV (some ⟨g, 0, none⟩) 1 cap') (by simp [results, Ybaf.results25, go_sem, k0]) rfl ⟨⟨g, cap', by simp at hg; omega, rfl, ?_⟩, ?_⟩
  · exact (World.cell?_setCell_other _ _ _ _ (by intro h; exact hgw (congrArg Addr.block h).symm)).trans hc2
  · exact (((Below.refl _ w).alloc (Nat.le_refl _) _).trans (hb2.mono (by simp))).setCell (p := ⟨w.heap.size, 0, none⟩) (Nat.le_refl _) _

end Go.Proofs.YbulkbvduFmt
