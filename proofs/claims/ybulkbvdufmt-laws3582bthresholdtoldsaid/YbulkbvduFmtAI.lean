/-
  Seat b3582aF: the walk of SendingOrders.
-/
import Derived.Test.YbulkbvduFmtAH
namespace Go.Proofs.YbulkbvduFmt
open Go.RowKit Go.Shelf

set_option maxHeartbeats 4000000 in
set_option maxRecDepth 100000 in
theorem orders_any (n : Nat) (hn : n ≤ 512) (w : World) :
    Calls Ybaf.prog 16 #[.int .i64 n] w fun e w' => ∃ ob, e = .returned (.slice (some ⟨ob, 0, none⟩) n n) ∧ Ord w' ob n n ∧ Below w.heap.size w w' := by
  obtain ⟨i3, hi, hz0, hz1, hz2⟩ := info_parts info3
  obtain ⟨i32, hj, hy0, hy1, hy2⟩ := info_parts info31
  obtain ⟨mk, hmk⟩ : ∃ mk : Array Value, mk = madeCells (Value.slice none 0 0).cells (n * 1) := ⟨_, rfl⟩
  have hmks : mk.size = n := by rw [hmk, size_madeCells]; omega
  have hmake : ∀ W, (Instr.makeSlice 32 (.int .i64 (n : Int)) (.int .i64 (n : Int))).run Ybaf.prog W = .ok (.slice (some ⟨W.heap.size, 0, none⟩) n n) (W.alloc (.cells mk 31)) := fun W => by
    have := run_make (P := Ybaf.prog) W 32 31 i32 (.slice none 0 0) Ybaf.underlying32 hj hy0 .i64 .i64 (n : Int) (n : Int) (by omega) (by omega) (by rw [hy2]; omega) (by omega)
    rw [hmk, this, hy1]
    simp
  have HS : Hid (mk.size = n) := hmks
  clear hmk hj hy0 hy1 hy2 hmks
  go_enter Ybaf.func16, Ybaf.ntmps16
  go_wp2_with fail
  have h0 : Ord (w.alloc (.cells mk 31)) w.heap.size n 0 := ⟨mk, heap_alloc_new w _, HS.out, fun j hj => absurd hj (Nat.not_lt_zero j)⟩
  have HO : Hid _ := h0
  clear h0 hmake
  go_loopw [10] (fun c wr => ∃ i : Nat, i ≤ n ∧ c = .int .i64 i ∧ Ord wr w.heap.size n i ∧ Below w.heap.size w wr)
    (fun c _ => n - (intOf c).toNat)
  case atStart => exact ⟨0, Nat.zero_le _, rfl, HO.out, (Below.refl _ _).alloc (Nat.le_refl _) _⟩
  case round =>
    clear HO HS
    obtain ⟨i, hin, rfl, hord, hbel⟩ := hrel
    obtain ⟨W0, rfl⟩ : ∃ W0 : World, W0 = wr := ⟨_, rfl⟩
    by_cases hlt : i < n
    · obtain ⟨cs, hcs, hsz, hrows⟩ := hord
      have hob : w.heap.size < W0.heap.size := (Array.getElem?_eq_some_iff.1 hcs).1
      obtain ⟨mr, hmr⟩ : ∃ mr : Array Value, mr = madeCells (Value.int .i64 0).cells ((n - 1) * 1) := ⟨_, rfl⟩
      have hmrs : mr.size = n - 1 := by rw [hmr, size_madeCells]; omega
      have hmake : ∀ W, (Instr.makeSlice 31 (.int .i64 0) (.int .i64 ((n : Int) - 1))).run Ybaf.prog W = .ok (.slice (some ⟨W.heap.size, 0, none⟩) 0 (n - 1)) (W.alloc (.cells mr 3)) := fun W => by
        have := run_make (P := Ybaf.prog) W 31 3 i3 (.int .i64 0) Ybaf.underlying31 hi hz0 .i64 .i64 0 ((n : Int) - 1) (by omega) (by omega) (by rw [hz2]; omega) (by omega)
        rw [hmr, this, hz1]
        have e : ((n : Int) - 1).toNat = n - 1 := by omega
        rw [e]
        simp
      have hc0 : ∃ v, W0.cell? ⟨w.heap.size, i, none⟩ = some v := ⟨_, (cell_of_row W0 _ i cs 31 _ hcs).trans (Array.getElem?_eq_getElem (by omega))⟩
      obtain ⟨v0, hc0⟩ := hc0
      have hf0 : W0.frozen? ⟨w.heap.size, i, none⟩ = false := frozen_row hcs
      have HM : Hid _ := Mid.first (W0 := W0) (i := i) hob hcs hmrs (by unfold maxLen; omega)
      have HD : Hid _ := fun (W : World) (g cap : Nat) (h : Mid W0 W w.heap.size i n g cap cs) => Mid.done hlt hob hsz hrows h
      have HBl : Hid (Below w.heap.size w W0) := hbel
      have HZ : Hid (cs.size = n) := hsz
      clear hmr hmrs hcs hsz hrows hbel
      go_wp2_with fail
      clear hc0 hf0 hmake
      go_loopw [20] (fun c wr => ∃ k : Nat, k ≤ n ∧ c = .int .i64 k ∧ ∃ g cap, Mid W0 wr w.heap.size i k g cap cs)
        (fun c _ => n - (intOf c).toNat)
      case atStart => exact ⟨0, Nat.zero_le _, rfl, _, _, HM.out⟩
      case round =>
        clear HM
        obtain ⟨k, hkn, rfl, g, cap, hmid⟩ := hrel
        obtain ⟨W1, rfl⟩ : ∃ W1 : World, W1 = wr := ⟨_, rfl⟩
        by_cases hkl : k < n
        · by_cases hki : k = i
          · subst hki
            have HN : Hid _ := hmid.skip
            clear hmid HD
            have hb : ((k : Int) != (k : Int)) = false := by simp
            go_wp2_with fail
            go_roundw
            case rel => exact ⟨k + 1, by omega, by go_num, _, _, HN.out⟩
            case measure => simp [intOf]; omega
          · have hb : ((k : Int) != (i : Int)) = true := by rw [bne_iff_ne]; omega
            have hcn := cnt_le i k
            have hc1 : W1.cell? ⟨w.heap.size, i, none⟩ = some (.slice (some ⟨g, 0, none⟩) (cnt i k) cap) := by
              rw [cell_of_row W1 _ i _ 31 _ hmid.row]
              simp [HZ.out, hlt]
            have HC : Hid (∀ w1 : World, (W1.alloc (.cells #[.int .i64 (k : Int)] 3)).grownBy w1 (some g) → (∃ v, w1.cell? ⟨w.heap.size, i, none⟩ = some v) ∧ w1.frozen? ⟨w.heap.size, i, none⟩ = false) := fun w1 hgw => by
              have hge : W0.heap.size ≤ g := by
                rcases hmid.own.2 with ⟨hv, _⟩ | ⟨_, _, _, hv, hg, _⟩
                · cases hv
                · cases hv; exact hg
              have hs1 := hmid.size
              have e : w1.heap[w.heap.size]? = _ := (hgw.block w.heap.size (by simp; omega) (by simp; omega)).trans ((Below.heap_alloc _ _ _ (by omega)).trans hmid.row)
              exact ⟨⟨_, (cell_of_row w1 _ i _ 31 _ e).trans (by simp [HZ.out, hlt]; rfl)⟩, frozen_row e⟩
            have HN : Hid _ := fun (w1 : World) (g' cap' : Nat) hgw hown => Mid.step (w1 := w1) (g' := g') (cap' := cap') hob hki hmid (.cells #[.int .i64 (k : Int)] 3) hgw hown
            have hbs : W0.heap.size ≤ W1.heap.size := hmid.size
            have hown := hmid.own
            clear hmid HD hki HZ
            go_wp2_with (at_builtin; refine wpList_append_lies _ rfl _ _ 31 rfl W0.heap.size 3 i3 (.int .i64 0) 1 8 Ybaf.underlying31 hi hz0 hz1 hz2 rfl (by decide) (.slice (some ⟨g, 0, none⟩) (cnt i k) cap) (cnt i k) (rowTo i k) rfl (hown.alloc _) ⟨W1.heap.size, 0, none⟩ 1 1 [.int .i64 (k : Int)] rfl rfl (cell_one_new _ _ _) (by simp [Value.oneCell']) (by decide) (by unfold maxLen; omega) (by omega) (by simp; omega) _ rfl ?_)
            intro g' cap' w1 hown1 hgrow _ _
            obtain ⟨⟨v1, hv1⟩, hfr1⟩ := HC.out w1 hgrow
            have HM2 : Hid _ := HN.out w1 g' cap' hgrow hown1
            clear hown1 hgrow HN HC hown
            go_wp2_with fail
            go_roundw
            case rel => exact ⟨k + 1, by omega, by go_num, _, _, HM2.out⟩
            case measure => simp [intOf]; omega
        · obtain rfl : k = n := by omega
          have HO2 : Hid _ := HD.out W1 g cap hmid
          have HB2 : Hid _ := hmid.below (Nat.le_refl _) hob HBl.out
          clear hmid HD HBl
          go_wp2_with fail
          go_roundw
          case rel => exact ⟨i + 1, by omega, by go_num, HO2.out, HB2.out⟩
          case measure => simp [intOf]; omega
    · obtain rfl : i = n := by omega
      have HO2 : Hid _ := hord
      have HB2 : Hid _ := hbel
      clear hord hbel
      go_wp2_with fail
      go_ret
      exact ⟨_, rfl, HO2.out, HB2.out⟩

end Go.Proofs.YbulkbvduFmt
