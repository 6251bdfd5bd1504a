/-
  Seat b3590aF: the walks of LawS3590AModel and LawS3590AAlphabet.
-/
import Derived.Test.YbulkbvicFmtE
namespace Go.Proofs.YbulkbvicFmt
open Go.RowKit Go.Extern.Stop Go.Stop Go.Extern

set_option maxHeartbeats 4000000 in
theorem lawModel_any (p : Option Addr) (n cap : Nat) (f : Nat → Int) (w : World) (ht : Txt w p n f) :
    Calls Ybaf.prog 3 #[.slice p n cap] w fun e w' => e = .returned (.bool true) ∧ Below w.heap.size w w' := by
  have HT : Hid (Txt w p n f) := ht
  clear ht
  by_cases h : n ≤ 4096
  · have hl : ¬ (4096 : Int) < n := by omega
    go_enter Ybaf.func3, Ybaf.ntmps3
    go_wp2_with (go_at_call 9; refine (check_any p n cap f (by omega) _ HT.out).mono ?_; rintro r w' ⟨rfl, hb⟩)
    go_ret
    exact ⟨rfl, hb⟩
  · have hl : (4096 : Int) < n := by omega
    go_enter Ybaf.func3, Ybaf.ntmps3
    go_wp2_with fail
    go_ret
    exact ⟨rfl, Below.refl _ w⟩

theorem row_next {wr : World} {b n k : Nat} {g : Nat → Int} {c : Int} (h : wr.rowIs b 5 n (fun i => .int .u8 (g i))) :
    (wr.setCell ⟨b, k, none⟩ (.int .u8 c)).rowIs b 5 n (fun i => .int .u8 ((fun i => if i = k then c else g i) i)) :=
  (h.set k (.int .u8 c)).congr fun i _ => by by_cases e : i = k <;> simp [e]
theorem row_txt {wr : World} {b n : Nat} {g : Nat → Int} (h : wr.rowIs b 5 n (fun i => .int .u8 (g i))) : Txt wr (some ⟨b, 0, none⟩) n g :=
  .inr ⟨b, 0, rfl, h.lt, fun k hk => by rw [Nat.zero_add]; exact h.cell hk⟩

set_option maxHeartbeats 4000000 in
theorem lawAlphabet_any (p : Option Addr) (n cap : Nat) (f : Nat → Int) (hf : ∀ k, k < n → 0 ≤ f k ∧ f k ≤ 255) (w : World) (ht : Txt w p n f) :
    Calls Ybaf.prog 4 #[.slice p n cap] w fun e w' => e = .returned (.bool true) ∧ Below w.heap.size w w' := by
  have HT : Hid (Txt w p n f) := ht
  clear ht
  by_cases h : n ≤ 4096
  case neg =>
    have hl : (4096 : Int) < n := by omega
    go_enter Ybaf.func4, Ybaf.ntmps4
    go_wp2_with fail
    go_ret
    exact ⟨rfl, Below.refl _ w⟩
  case pos =>
    have hl : ¬ (4096 : Int) < n := by omega
    have HF : Hid _ := hf
    clear hf
    have hmk := run_make_row' (P := Ybaf.prog) 22 5 (.int .u8 0) 1 Ybaf.underlying22 Ybaf.info5 rfl .i64 .i64 n (by omega) (by omega)
    have HR : Hid ((w.alloc (.cells (madeCells #[.int .u8 0] n) 5)).rowIs w.heap.size 5 n (fun _ => .int .u8 0)) := World.rowIs_made w (.int .u8 0) n 5
    obtain ⟨W1, hW1⟩ : ∃ W1, W1 = w.alloc (.cells (madeCells #[.int .u8 0] n) 5) := ⟨_, rfl⟩
    have HB1 : Hid (Below w.heap.size w W1) := by rw [hW1]; exact (Below.refl _ w).alloc (Nat.le_refl _) _
    rw [← hW1] at HR
    go_enter Ybaf.func4, Ybaf.ntmps4
    go_wp2_with fail
    rw [← hW1]
    clear hW1 hmk
    go_loopw [4] (fun c wr => ∃ k : Nat, k ≤ n ∧ c = .int .i64 k ∧ Hid (Below w.heap.size w wr) ∧ ∃ g : Nat → Int, Hid (wr.rowIs w.heap.size 5 n (fun i => .int .u8 (g i)))) (fun c _ => n - (intOf c).toNat)
    case atStart => exact ⟨0, Nat.zero_le _, rfl, HB1, fun _ => 0, HR⟩
    case round =>
      obtain ⟨k, hk, rfl, HB7, g, HG⟩ := hrel
      clear HR HB1
      by_cases hlt : k < n
      · have hlt' : (k : Int) < n := by omega
        rcases HT.out with h | ⟨b, off, rfl, hbl, hc⟩
        · omega
        obtain ⟨x, hx⟩ : ∃ x, x = f k := ⟨_, rfl⟩
        have hx0 : 0 ≤ x ∧ x ≤ 255 := by rw [hx]; exact HF.out k hlt
        have hcx : wr.cell? ⟨b, off + k, none⟩ = some (.int .u8 x) := by rw [hx]; exact cell_later HB7.out (hc k hlt)
        have hcy : wr.cell? ⟨w.heap.size, k, none⟩ = some (.int .u8 (g k)) := HG.out.cell hlt
        have hfy : wr.frozen? ⟨w.heap.size, k, none⟩ = false := HG.out.frozen k
        clear hc hx
        go_wp2_with fail
        exact ⟨⟨k + 1, by omega, by go_num, HB7.out.setCell (Nat.le_refl _) _, _, row_next HG.out⟩, by simp [intOf]; omega⟩
      · have hlt' : decide ((k : Int) < n) = false := by simp; omega
        have HX : Hid _ := fun (_ : Unit) => check_any (some ⟨w.heap.size, 0, none⟩) n n g (by omega) wr (row_txt HG.out)
        go_wp2_with (go_at_call 9; refine (HX.out ()).mono ?_; rintro r w' ⟨rfl, hb⟩)
        go_ret
        exact ⟨rfl, HB7.out.trans (hb.mono HB7.out.size)⟩

end Go.Proofs.YbulkbvicFmt
